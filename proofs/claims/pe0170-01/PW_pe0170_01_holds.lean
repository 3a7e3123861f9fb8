import PyProof.Rows.All
import Wide.All
import OpenK.AllK
import Wide.FinOn
import Lean
import PySem.Challenge.RW_pe0170_01

set_option Elab.async false
set_option maxRecDepth 100000

namespace Mine
open PySem PySem.Calls PySem.Spec PyProof.Rows PySem.W

noncomputable abbrev Stays (h h' : Heap) : Prop := ∀ a o, h.get? a = some o → h'.get? a = some o
theorem Stays.refl (h : Heap) : Stays h h := fun _ _ e => e
theorem Stays.trans {h h' h'' : Heap} (x : Stays h h') (y : Stays h' h'') : Stays h h'' := fun a o e => y a o (x a o e)
theorem stays_push (h : Heap) (o : Obj) : Stays h (h.push o) := fun _ _ e => Heap.get?_push_of_some o e

/-- data read at a value, its lists at addresses of U -/
noncomputable def Rep (U : Addr → Prop) (h : Heap) (v : Value) (d : PyData) : Prop := ∃ as, Reads h v d as ∧ ∀ a ∈ as, U a
noncomputable def RepAll (U : Addr → Prop) (h : Heap) (vs : List Value) (ds : List PyData) : Prop := ∃ as, ReadsAll h vs ds as ∧ ∀ a ∈ as, U a

/-- the objects that bear data -/
noncomputable def IsDat (o : Obj) : Prop := (∃ vs n, o.data = .seq vs n) ∨ (∃ es n, o.data = .dict es n)
noncomputable def IsTupO (o : Obj) : Prop := o.cls = .type "tuple" ∧ ∃ vs n, o.data = .seq vs n
theorem reads_tr2 {h h' : Heap} {G : Addr → Prop} (k : ∀ a o, h.get? a = some o → IsDat o → (G a ∨ IsTupO o) → h'.get? a = some o) :
    (∀ v d as, Reads h v d as → (∀ a ∈ as, G a) → Reads h' v d as) ∧ (∀ vs ds as, ReadsAll h vs ds as → (∀ a ∈ as, G a) → ReadsAll h' vs ds as) := by
  have c5 : ∀ {a o vs n xs as}, h.get? a = some o → o.cls = .type "list" → o.data = .seq vs n → ReadsAll h vs.toList xs as → ((∀ a ∈ as, G a) → ReadsAll h' vs.toList xs as) → (∀ c ∈ a :: as, G c) → Reads h' (.ref a) (.list xs) (a :: as) :=
    fun e c d _ i u => .list (k _ _ e (.inl ⟨_, _, d⟩) (.inl (u _ List.mem_cons_self))) c d (i fun z hz => u z (List.mem_cons_of_mem _ hz))
  have c6 : ∀ {a o vs n xs as}, h.get? a = some o → o.cls = .type "tuple" → o.data = .seq vs n → ReadsAll h vs.toList xs as → ((∀ a ∈ as, G a) → ReadsAll h' vs.toList xs as) → (∀ c ∈ as, G c) → Reads h' (.ref a) (.tuple xs) as :=
    fun e c d _ i u => .tuple (k _ _ e (.inl ⟨_, _, d⟩) (.inr ⟨c, _, _, d⟩)) c d (i u)
  have c7 : ∀ {a o es n} {kvs : List (PyData × PyData)} {as bs}, h.get? a = some o → o.cls = .type "dict" → o.data = .dict es n → ReadsAll h (es.toList.map (·.key)) (kvs.map (·.1)) as → ReadsAll h (es.toList.map (·.val)) (kvs.map (·.2)) bs →
      ((∀ a ∈ as, G a) → ReadsAll h' (es.toList.map (·.key)) (kvs.map (·.1)) as) → ((∀ a ∈ bs, G a) → ReadsAll h' (es.toList.map (·.val)) (kvs.map (·.2)) bs) → (∀ c ∈ a :: as ++ bs, G c) → Reads h' (.ref a) (.dict kvs) (a :: as ++ bs) :=
    fun e c d _ _ i j u => .dict (k _ _ e (.inr ⟨_, _, d⟩) (.inl (u _ (List.mem_append_left _ List.mem_cons_self)))) c d (i fun z hz => u z (List.mem_append_left _ (List.mem_cons_of_mem _ hz))) (j fun z hz => u z (List.mem_append_right _ hz))
  have c9 : ∀ {v vs d ds as bs}, Reads h v d as → ReadsAll h vs ds bs → ((∀ a ∈ as, G a) → Reads h' v d as) → ((∀ a ∈ bs, G a) → ReadsAll h' vs ds bs) → (∀ c ∈ as ++ bs, G c) → ReadsAll h' (v :: vs) (d :: ds) (as ++ bs) :=
    fun _ _ i j u => .cons (i fun z hz => u z (List.mem_append_left _ hz)) (j fun z hz => u z (List.mem_append_right _ hz))
  exact ⟨fun _ _ _ r => Reads.rec (motive_1 := fun v d as _ => (∀ a ∈ as, G a) → Reads h' v d as) (motive_2 := fun vs ds as _ => (∀ a ∈ as, G a) → ReadsAll h' vs ds as) (fun _ => .none) (fun b _ => .bool b) (fun i t _ => .int i t) (fun x t _ => .str x t) c5 c6 c7 (fun _ => .nil) c9 r,
    fun _ _ _ r => ReadsAll.rec (motive_1 := fun v d as _ => (∀ a ∈ as, G a) → Reads h' v d as) (motive_2 := fun vs ds as _ => (∀ a ∈ as, G a) → ReadsAll h' vs ds as) (fun _ => .none) (fun b _ => .bool b) (fun i t _ => .int i t) (fun x t _ => .str x t) c5 c6 c7 (fun _ => .nil) c9 r⟩
theorem reads_dat2 {h : Heap} : (∀ v d as, Reads h v d as → ∀ a ∈ as, ∃ o, h.get? a = some o ∧ IsDat o) ∧ (∀ vs ds as, ReadsAll h vs ds as → ∀ a ∈ as, ∃ o, h.get? a = some o ∧ IsDat o) := by
  have c0 : ∀ a ∈ ([] : List Addr), ∃ o, h.get? a = some o ∧ IsDat o := fun _ m => nomatch m
  have cc : ∀ {as bs : List Addr}, (∀ a ∈ as, ∃ o, h.get? a = some o ∧ IsDat o) → (∀ a ∈ bs, ∃ o, h.get? a = some o ∧ IsDat o) → ∀ a ∈ as ++ bs, ∃ o, h.get? a = some o ∧ IsDat o := fun i j a m => (List.mem_append.mp m).elim (i a) (j a)
  have c1 : ∀ {a o} {as : List Addr}, h.get? a = some o → IsDat o → (∀ a ∈ as, ∃ o, h.get? a = some o ∧ IsDat o) → ∀ c ∈ a :: as, ∃ o, h.get? c = some o ∧ IsDat o := fun e d i c m => (List.mem_cons.mp m).elim (fun q => q ▸ ⟨_, e, d⟩) (i c)
  exact ⟨fun _ _ _ r => Reads.rec (motive_1 := fun v d as _ => ∀ a ∈ as, ∃ o, h.get? a = some o ∧ IsDat o) (motive_2 := fun vs ds as _ => ∀ a ∈ as, ∃ o, h.get? a = some o ∧ IsDat o) c0 (fun _ => c0) (fun _ _ => c0) (fun _ _ => c0) (fun e _ d _ i => c1 e (.inl ⟨_, _, d⟩) i) (fun _ _ _ _ i => i) (fun e _ d _ _ i j => cc (c1 e (.inr ⟨_, _, d⟩) i) j) c0 (fun _ _ i j => cc i j) r,
    fun _ _ _ r => ReadsAll.rec (motive_1 := fun v d as _ => ∀ a ∈ as, ∃ o, h.get? a = some o ∧ IsDat o) (motive_2 := fun vs ds as _ => ∀ a ∈ as, ∃ o, h.get? a = some o ∧ IsDat o) c0 (fun _ => c0) (fun _ _ => c0) (fun _ _ => c0) (fun e _ d _ i => c1 e (.inl ⟨_, _, d⟩) i) (fun _ _ _ _ i => i) (fun e _ d _ _ i j => cc (c1 e (.inr ⟨_, _, d⟩) i) j) c0 (fun _ _ i j => cc i j) r⟩
theorem reads_stays {h h' : Heap} (k : Stays h h') {v d as} (r : Reads h v d as) : Reads h' v d as := (reads_tr2 (G := fun _ => True) fun a o e _ _ => k a o e).1 _ _ _ r fun _ _ => trivial
theorem readsAll_stays {h h' : Heap} (k : Stays h h') {vs ds as} (r : ReadsAll h vs ds as) : ReadsAll h' vs ds as := (reads_tr2 (G := fun _ => True) fun a o e _ _ => k a o e).2 _ _ _ r fun _ _ => trivial

/-- a changed address that bears no tuple -/
noncomputable def NoTup (h : Heap) (a : Addr) : Prop := ∀ o vs n, h.get? a = some o → o.cls = .type "tuple" → o.data ≠ .seq vs n
theorem but_tr {h h' : Heap} {b : Addr} (hs : Heap.SameBut b h h') (hb : NoTup h b) (a : Addr) (o : Obj) (e : h.get? a = some o) (_ : IsDat o) (g : a ≠ b ∨ IsTupO o) : h'.get? a = some o :=
  (hs.2 a fun q => g.elim (fun n => n q) fun ⟨c, _, _, d⟩ => hb _ _ _ (q ▸ e) c d).trans e
theorem reads_but {h h' : Heap} {b : Addr} (hs : Heap.SameBut b h h') (hb : NoTup h b) {v d as} (r : Reads h v d as) (n : b ∉ as) : Reads h' v d as := (reads_tr2 (but_tr hs hb)).1 _ _ _ r fun _ m q => n (q ▸ m)
theorem readsAll_but {h h' : Heap} {b : Addr} (hs : Heap.SameBut b h h') (hb : NoTup h b) {vs ds as} (r : ReadsAll h vs ds as) (n : b ∉ as) : ReadsAll h' vs ds as := (reads_tr2 (but_tr hs hb)).2 _ _ _ r fun _ m q => n (q ▸ m)

section
variable {U U' : Addr → Prop} {h h' : Heap} {v : Value} {d : PyData} {vs ws : List Value} {ds es : List PyData}
theorem Rep.stays (k : Stays h h') (x : Rep U h v d) : Rep U h' v d := let ⟨as, r, u⟩ := x; ⟨as, reads_stays k r, u⟩
theorem RepAll.stays (k : Stays h h') (x : RepAll U h vs ds) : RepAll U h' vs ds := let ⟨as, r, u⟩ := x; ⟨as, readsAll_stays k r, u⟩
theorem Rep.mono (k : ∀ a, U a → U' a) (x : Rep U h v d) : Rep U' h v d := let ⟨as, r, u⟩ := x; ⟨as, r, fun a m => k a (u a m)⟩
theorem RepAll.mono (k : ∀ a, U a → U' a) (x : RepAll U h vs ds) : RepAll U' h vs ds := let ⟨as, r, u⟩ := x; ⟨as, r, fun a m => k a (u a m)⟩
theorem Rep.but {b : Addr} (hs : Heap.SameBut b h h') (hb : NoTup h b) (n : ¬ U b) (x : Rep U h v d) : Rep U h' v d :=
  let ⟨as, r, u⟩ := x; ⟨as, reads_but hs hb r fun m => n (u b m), u⟩
theorem RepAll.but {b : Addr} (hs : Heap.SameBut b h h') (hb : NoTup h b) (n : ¬ U b) (x : RepAll U h vs ds) : RepAll U h' vs ds :=
  let ⟨as, r, u⟩ := x; ⟨as, readsAll_but hs hb r fun m => n (u b m), u⟩
theorem RepAll.nil : RepAll U h [] [] := ⟨[], .nil, fun _ m => nomatch m⟩
theorem RepAll.cons (x : Rep U h v d) (y : RepAll U h vs ds) : RepAll U h (v :: vs) (d :: ds) :=
  let ⟨as, r, u⟩ := x; let ⟨bs, q, z⟩ := y; ⟨as ++ bs, .cons r q, fun a m => (List.mem_append.mp m).elim (u a) (z a)⟩
theorem RepAll.head (x : RepAll U h (v :: vs) (d :: ds)) : Rep U h v d := by
  obtain ⟨as, r, u⟩ := x
  cases r with
  | cons r q => exact ⟨_, r, fun a m => u a (List.mem_append_left _ m)⟩
theorem RepAll.tail (x : RepAll U h (v :: vs) (d :: ds)) : RepAll U h vs ds := by
  obtain ⟨as, r, u⟩ := x
  cases r with
  | cons r q => exact ⟨_, q, fun a m => u a (List.mem_append_right _ m)⟩
theorem RepAll.length : ∀ {vs : List Value} {ds : List PyData}, RepAll U h vs ds → vs.length = ds.length
  | _, _, ⟨_, .nil, _⟩ => rfl
  | _, _, ⟨_, .cons r q, u⟩ => by
    rw [List.length_cons, List.length_cons, RepAll.length ⟨_, q, fun a m => u a (List.mem_append_right _ m)⟩]
theorem RepAll.append : ∀ {vs : List Value} {ds : List PyData}, RepAll U h vs ds → RepAll U h ws es → RepAll U h (vs ++ ws) (ds ++ es)
  | [], [], _, y => y
  | [], _ :: _, x, _ => by have := x.length; simp at this
  | _ :: _, [], x, _ => by have := x.length; simp at this
  | _ :: _, _ :: _, x, y => .cons x.head (x.tail.append y)
theorem RepAll.get : ∀ {vs : List Value} {ds : List PyData} {i : Nat} {d : PyData}, RepAll U h vs ds → ds[i]? = some d → ∃ v, vs[i]? = some v ∧ Rep U h v d
  | [], [], _, _, _, e => by simp at e
  | [], _ :: _, _, _, x, _ => by have := x.length; simp at this
  | _ :: _, [], _, _, x, _ => by have := x.length; simp at this
  | v :: _, _ :: _, 0, _, x, e => ⟨v, rfl, by simp at e; exact e ▸ x.head⟩
  | _ :: _, _ :: _, i + 1, _, x, e => by
    obtain ⟨v, e', r⟩ := x.tail.get (i := i) (by simpa using e)
    exact ⟨v, by simpa using e', r⟩
theorem RepAll.get' : ∀ {vs : List Value} {ds : List PyData} {i : Nat} {v : Value}, RepAll U h vs ds → vs[i]? = some v → ∃ d, ds[i]? = some d ∧ Rep U h v d
  | [], [], _, _, _, e => by simp at e
  | [], _ :: _, _, _, x, _ => by have := x.length; simp at this
  | _ :: _, [], _, _, x, _ => by have := x.length; simp at this
  | _ :: _, d :: _, 0, _, x, e => ⟨d, rfl, by simp at e; exact e ▸ x.head⟩
  | _ :: _, _ :: _, i + 1, _, x, e => by
    obtain ⟨d, e', r⟩ := x.tail.get' (i := i) (by simpa using e)
    exact ⟨d, by simpa using e', r⟩
theorem RepAll.take : ∀ (n : Nat) {vs : List Value} {ds : List PyData}, RepAll U h vs ds → RepAll U h (vs.take n) (ds.take n)
  | 0, _, _, _ => by simp; exact .nil
  | n + 1, [], [], _ => by simp; exact .nil
  | _ + 1, [], _ :: _, x => by have := x.length; simp at this
  | _ + 1, _ :: _, [], x => by have := x.length; simp at this
  | n + 1, _ :: _, _ :: _, x => by simp; exact .cons x.head (x.tail.take n)
theorem RepAll.drop : ∀ (n : Nat) {vs : List Value} {ds : List PyData}, RepAll U h vs ds → RepAll U h (vs.drop n) (ds.drop n)
  | 0, _, _, x => by simpa using x
  | n + 1, [], [], _ => by simp; exact .nil
  | _ + 1, [], _ :: _, x => by have := x.length; simp at this
  | _ + 1, _ :: _, [], x => by have := x.length; simp at this
  | n + 1, _ :: _, _ :: _, x => by simp; exact x.tail.drop n
theorem RepAll.reverse : ∀ {vs : List Value} {ds : List PyData}, RepAll U h vs ds → RepAll U h vs.reverse ds.reverse
  | [], [], _ => .nil
  | [], _ :: _, x => by have := x.length; simp at this
  | _ :: _, [], x => by have := x.length; simp at this
  | _ :: _, _ :: _, x => by simp; exact x.tail.reverse.append (.cons x.head .nil)
theorem Rep.none' : Rep U h .none .none := ⟨[], .none, fun _ m => nomatch m⟩
theorem Rep.bool (b : Bool) : Rep U h (.bool b) (.bool b) := ⟨[], .bool b, fun _ m => nomatch m⟩
theorem Rep.int (i : Int) (t : Tok) : Rep U h (.int i t) (.int i) := ⟨[], .int i t, fun _ m => nomatch m⟩
theorem Rep.str (x : Str) (t : Tok) : Rep U h (.str x t) (.str x) := ⟨[], .str x t, fun _ m => nomatch m⟩
theorem Rep.tuple {a : Addr} {vs : List Value} (e : h.IsTuple a vs.toArray) (r : RepAll U h vs ds) : Rep U h (.ref a) (.tuple ds) := by
  obtain ⟨as, r, u⟩ := r
  obtain ⟨o, ho, hc, n, hd⟩ := e
  exact ⟨as, .tuple ho hc hd (by simpa using r), u⟩
theorem Rep.list {a : Addr} {vs : List Value} (e : h.IsList a vs.toArray) (r : RepAll U h vs ds) (ua : U a) : Rep U h (.ref a) (.list ds) := by
  obtain ⟨as, r, u⟩ := r
  obtain ⟨o, ho, hc, n, hd⟩ := e
  exact ⟨a :: as, .list ho hc hd (by simpa using r), fun b m => (List.mem_cons.mp m).elim (fun q => q ▸ ua) (u b)⟩
theorem Rep.listInv (x : Rep U h v (.list ds)) : ∃ a vs, v = .ref a ∧ h.IsList a vs.toArray ∧ RepAll U h vs ds ∧ U a := by
  obtain ⟨as, r, u⟩ := x
  cases r with
  | list ho hc hd q => exact ⟨_, _, rfl, ⟨_, ho, hc, _, by simpa using hd⟩, ⟨_, q, fun a m => u a (List.mem_cons_of_mem _ m)⟩, u _ List.mem_cons_self⟩
theorem Rep.tupleInv (x : Rep U h v (.tuple ds)) : ∃ a vs, v = .ref a ∧ h.IsTuple a vs.toArray ∧ RepAll U h vs ds := by
  obtain ⟨as, r, u⟩ := x
  cases r with
  | tuple ho hc hd q => exact ⟨_, _, rfl, ⟨_, ho, hc, _, by simpa using hd⟩, ⟨_, q, u⟩⟩
theorem Rep.intInv {i : Int} (x : Rep U h v (.int i)) : ∃ t, v = .int i t := by
  obtain ⟨as, r, u⟩ := x; cases r; exact ⟨_, rfl⟩
theorem Rep.strInv {i : Str} (x : Rep U h v (.str i)) : ∃ t, v = .str i t := by
  obtain ⟨as, r, u⟩ := x; cases r; exact ⟨_, rfl⟩
theorem Rep.boolInv {i : Bool} (x : Rep U h v (.bool i)) : v = .bool i := by
  obtain ⟨as, r, u⟩ := x; cases r; rfl
theorem Rep.noneInv (x : Rep U h v .none) : v = .none := by
  obtain ⟨as, r, u⟩ := x; cases r; rfl
end
/-! what an answer says of a choice -/
theorem iteS {c : Prop} [Decidable c] {α : Type} {x : Option α} {y : α} (h : (if c then x else none) = some y) : c ∧ x = some y := by
  by_cases z : c
  · rw [if_pos z] at h; exact ⟨z, h⟩
  · rw [if_neg z] at h; cases h
theorem iteN {c : Prop} [Decidable c] {α : Type} {x : Option α} {y : α} (h : (if c then none else x) = some y) : ¬c ∧ x = some y := by
  by_cases z : c
  · rw [if_pos z] at h; cases h
  · rw [if_neg z] at h; exact ⟨z, h⟩
theorem noSome {α : Type} {y : α} {p : Prop} (h : (none : Option α) = some y) : p := by cases h
end Mine

namespace Mine
open PySem PySem.Calls PySem.Spec PyProof.Rows PySem.W

/-! the evaluator: plain data in, plain data out -/
inductive Ent where
  | val (d : PyData)
  | own (ds : List PyData)
  | hdr (ps : List PyData)
  | slf (ps : List PyData)
  | kwd
noncomputable abbrev Rho := List (Str × Ent)
inductive Md where
  | value | read | truth
/-- what is known of the calls: functions by name; and, ahead of the evaluator's own rules, expressions of any other kind -/
structure Tab where
  fn : Str → List PyData → Option PyData
  hook : (Md → Scope → Rho → Expr → Option PyData) → Scope → Rho → Expr → Option PyData
noncomputable def isFresh : Expr → Bool
  | .List .. => true
  | .ListComp .. => true
  | .SetComp .. => true
  | .DictComp .. => true
  | .BinOp _ .Add _ _ => true
  | .Subscript _ (.Slice ..) _ => true
  | .Call (.Name f _) _ [] _ => f == ("list" : Str)
  | _ => false

noncomputable def Rho.set (ρ : Rho) (x : Str) (e : Ent) : Rho := (x, e) :: ρ.filter fun p => !(p.1 == x)

noncomputable def isVar : Option NameKind → Bool
  | some .local => true
  | some .cell => true
  | some .free => true
  | _ => false
noncomputable def okName (x : Str) : Bool := !(x == ("__debug__" : Str)) && !(x == ("__classdict__" : Str))
noncomputable def look (sc : Scope) (ρ : Rho) (x : Str) : Option Ent := if isVar (sc.names.lookup x) && okName x then ρ.lookup x else none
noncomputable def nameD (rd : Bool) (sc : Scope) (ρ : Rho) (x : Str) : Option PyData :=
  match look sc ρ x with
  | some (.val d) => some d
  | some (.own ds) => if rd then some (.list ds) else none
  | _ => none

noncomputable def constD : Const → Option PyData
  | .none => some .none
  | .bool b => some (.bool b)
  | .int i => some (.int i)
  | .str x => some (.str x)
  | _ => none

noncomputable def top : Nat := 1048576
noncomputable def mkList (ds : List PyData) : Option PyData := if ds.length ≤ top then some (.list ds) else none
noncomputable def smallD (d : PyData) : Bool := d.canLay0 && decide (d.depth ≤ 64)

noncomputable def mulOk (a : Int) : Bool := decide (a.natAbs < 1073741824)
noncomputable def divOk (b : Int) : Bool := decide (b.natAbs < 1073741824) && decide (b ≠ 0)
noncomputable def powOk (a b : Int) : Bool := decide (0 ≤ b) && decide (b ≤ 6) && decide (a.natAbs ≤ 16)
noncomputable def intsD (f : Int → Int → Option PyData) (a b : PyData) : Option PyData := match a with
  | .int i => (match b with
    | .int j => f i j
    | _ => none)
  | _ => none
theorem intsD_eq {f : Int → Int → Option PyData} {a b d : PyData} (q : intsD f a b = some d) : ∃ i j, a = .int i ∧ b = .int j ∧ f i j = some d := by
  cases a with
  | int i =>
    cases b with
    | int j => exact ⟨_, _, rfl, rfl, q⟩
    | _ => exact noSome q
  | _ => exact noSome q
noncomputable def addD (a b : PyData) : Option PyData := match a with
  | .int _ => intsD (fun i j => some (.int (i + j))) a b
  | .list l => (match b with
    | .list m => mkList (l ++ m)
    | _ => none)
  | _ => none
noncomputable def binD (op : Operator) (a b : PyData) : Option PyData := match op with
  | .Add => addD a b
  | .FloorDiv => intsD (fun a b => if divOk b then some (.int (a.fdiv b)) else none) a b
  | .Mod => intsD (fun a b => if b = 0 then none else some (.int (a.fmod b))) a b
  | .Pow => intsD (fun a b => if powOk a b then some (.int (a ^ b.toNat)) else none) a b
  | _ => none
noncomputable def negD : PyData → Option PyData
  | .int a => some (.int (-a))
  | _ => none

noncomputable def isNoneD : PyData → Bool
  | .none => true
  | _ => false
noncomputable def cmpD (op : CmpOp) (a b : PyData) : Option PyData := match op with
  | .Eq => if smallD a && smallD b then some (.bool (PyData.eqv a b)) else none
  | .NotEq => if smallD a && smallD b then some (.bool (!PyData.eqv a b)) else none
  | .Is => (match b with
    | .none => some (.bool (isNoneD a))
    | _ => none)
  | .IsNot => (match b with
    | .none => some (.bool (!isNoneD a))
    | _ => none)
  | .Lt => intsD (fun a b => some (.bool (decide (a < b)))) a b
  | .In => (match b with
    | .list xs => if smallD a && smallD (.list xs) then some (.bool (xs.any fun y => PyData.eqv y a)) else none
    | _ => none)
  | .NotIn => (match b with
    | .list xs => if smallD a && smallD (.list xs) then some (.bool (!xs.any fun y => PyData.eqv y a)) else none
    | _ => none)
  | _ => none

noncomputable def truthD : PyData → Option Bool
  | .bool b => some b
  | .int i => some (!(i == 0))
  | _ => none

noncomputable def idxOk (i : Int) : Bool := decide (i.natAbs < 2 ^ 60)
noncomputable def idxD : PyData → PyData → Option PyData
  | .list ds, .int i => if idxOk i then (seqIndex? i ds.length).bind fun k => ds[k]? else none
  | .tuple ds, .int i => if idxOk i then (seqIndex? i ds.length).bind fun k => ds[k]? else none
  | _, _ => none
noncomputable def cutL (ds : List PyData) (lo hi : Option Int) : List PyData :=
  (ds.drop (lo.elim 0 (clipAt ds.length))).take (hi.elim ds.length (clipAt ds.length) - lo.elim 0 (clipAt ds.length))
noncomputable def cutD (d : PyData) (lo hi st : Option Int) : Option PyData :=
  match d, lo, hi, st with
  | .list ds, lo, hi, none => if ds.length ≤ top then some (.list (cutL ds lo hi)) else none
  | _, _, _, _ => none

noncomputable def lenD : PyData → Option PyData
  | .list ds => if ds.length ≤ top then some (.int ds.length) else none
  | _ => none
noncomputable def copyD : PyData → Option PyData
  | .list ds => mkList ds
  | _ => none
noncomputable def caseD (m : Str) : PyData → Option PyData
  | .str x => if x.length ≤ 1000 then
      (if m == ("lower" : Str) then some (.str (Txt.lower x)) else if m == ("upper" : Str) then some (.str (Txt.upper x)) else if m == ("swapcase" : Str) then some (.str (Txt.swapcase x)) else none) else none
  | _ => none

noncomputable def relabelS (scope sc : Scope) : Scope :=
  { scope with names := scope.names.map fun (n, k) => if (k == .free && sc.kind == .function && sc.names.lookup n == some .cell) then (n, .cell) else (n, k) }

/-- what a target binds -/
noncomputable def nameOfE : Expr → Option Str
  | .Name x _ => some x
  | _ => none
noncomputable def bindD : Expr → PyData → Option (List (Str × PyData))
  | .Name x _, d => some [(x, d)]
  | .Tuple es _ _, .tuple ds => (es.mapM nameOfE).bind fun xs => if xs.length = ds.length then some (xs.zip ds) else none
  | _, _ => none
noncomputable def Rho.sets (ρ : Rho) (b : List (Str × PyData)) : Rho := b.foldl (fun ρ p => ρ.set p.1 (.val p.2)) ρ

noncomputable def isSet : Expr → Bool
  | .Set .. => true
  | _ => false
noncomputable def isStar : Expr → Bool
  | .Starred .. => true
  | _ => false
noncomputable def one1 : List Expr → Option Expr
  | [a] => some a
  | _ => none
theorem one1_eq {l : List Expr} {a : Expr} (q : one1 l = some a) : l = [a] := by
  rcases l with _ | ⟨b, _ | ⟨_, _⟩⟩
  · exact noSome q
  · cases q; rfl
  · exact noSome q
/-- f(a), f a name -/
noncomputable def callName : Expr → Option (Str × Expr)
  | .Call f args kws _ => (nameOfE f).bind fun c => (one1 args).bind fun a => if kws.isEmpty then some (c, a) else none
  | _ => none
theorem nameOfE_eq {e : Expr} {x : Str} (q : nameOfE e = some x) : ∃ p, e = .Name x p := by
  cases e with
  | Name y p => cases q; exact ⟨_, rfl⟩
  | _ => exact noSome q
theorem callName_eq {e a : Expr} {c : Str} (q : callName e = some (c, a)) : ∃ p p', e = .Call (.Name c p) [a] [] p' := by
  cases e with
  | Call f args kws p' =>
    obtain ⟨c', hc, q1⟩ := Option.bind_eq_some_iff.mp q
    obtain ⟨a', ha, q2⟩ := Option.bind_eq_some_iff.mp q1
    obtain ⟨hk, q3⟩ := iteS q2
    cases q3
    obtain ⟨p, hp⟩ := nameOfE_eq hc
    rw [hp, one1_eq ha, List.isEmpty_iff.mp hk]
    exact ⟨_, _, rfl⟩
  | _ => exact noSome q
noncomputable def rangeI : PyData → Option (List PyData)
  | .int k => if decide (0 ≤ k) && decide (k ≤ top) then some ((List.range k.toNat).map fun (i : Nat) => PyData.int (i : Int)) else none
  | _ => none
noncomputable def listI : PyData → Option (List PyData)
  | .list ds => some ds
  | _ => none
theorem listI_eq {d : PyData} {ds : List PyData} (q : listI d = some ds) : d = .list ds := by
  cases d with
  | list es => cases q; rfl
  | _ => exact noSome q
section
variable (r : Md → Scope → Rho → Expr → Option PyData)
noncomputable def evL (sc : Scope) (ρ : Rho) : List Expr → Option (List PyData)
  | [] => some []
  | e :: es => if isStar e then none else (r .value sc ρ e).bind fun d => (evL sc ρ es).bind fun ds => some (d :: ds)
noncomputable def evO (sc : Scope) (ρ : Rho) : Option Expr → Option (Option Int)
  | none => some none
  | some e => (r .value sc ρ e).bind fun d => match d with | .int i => some (some i) | _ => none
noncomputable def evTests (sc : Scope) (ρ : Rho) : List Expr → Option Bool
  | [] => some true
  | [e] => (r .truth sc ρ e).bind truthD
  | _ => none
/-- the items of what is walked -/
noncomputable def itemsD (sc : Scope) (ρ : Rho) (e : Expr) : Option (List PyData) :=
  match callName e with
  | some c => if c.1 == ("range" : Str) && (sc.names.lookup c.1 == some .globalImplicit) && !isStar c.2 then (r .value sc ρ c.2).bind rangeI
    else (r .value sc ρ e).bind listI
  | none => if isSet e then none else (r .value sc ρ e).bind listI
noncomputable def own1 (scope : Scope) (x : Str) : Bool := match scope.names.lookup x with | some .local => true | some .cell => true | _ => false
/-- a comprehension's clauses behind the first source: what is appended, in order -/
noncomputable def evG (scope sc : Scope) (elt : Expr) : List Comprehension → Rho → Option (List PyData) → Option (List PyData)
  | [], ρ, _ => (r .value sc ρ elt).map fun d => [d]
  | g :: gs, ρ, items => (items.bind fun items =>
      items.foldr (fun d acc => (bindD g.target d).bind fun b => if b.all fun p => own1 scope p.1 && (ρ.lookup p.1).isNone then
        (evTests r sc (ρ.sets b) g.ifs).bind fun t => if t then
            (evG scope sc elt gs (ρ.sets b) (match gs with | [] => none | g' :: _ => itemsD r sc (ρ.sets b) g'.iter)).bind fun l => acc.map (l ++ ·)
          else acc
        else none) (some []))
end

noncomputable def okBase : Expr → Bool
  | .Name .. => true
  | .Constant .. => true
  | .Subscript .. => true
  | _ => false

section
variable (r : Md → Scope → Rho → Expr → Option PyData) (Φ : Tab) (srt : PyData → Option PyData)
noncomputable def evCall (sc : Scope) (ρ : Rho) (f : Str) (args : List Expr) : Option PyData :=
  if (sc.names.lookup f == some .globalImplicit) && okName f then
    (if f == ("len" : Str) then (match args with | [a] => if isStar a then none else (r .read sc ρ a).bind lenD | _ => none)
    else if f == ("list" : Str) then (match args with | [a] => if isStar a then none else (r .read sc ρ a).bind copyD | _ => none)
    else if f == ("sorted" : Str) then (match args with | [a] => if isStar a then none else (r .read sc ρ a).bind srt | _ => none)
    else (match args with | [] => none | _ => (evL r sc ρ args).bind (Φ.fn f)))
  else none
noncomputable def isVal : Ent → Bool
  | .val _ => true
  | _ => false
noncomputable def compRho (scope : Scope) (ρ : Rho) : Rho := scope.names.filterMap fun p => if p.2 == .free then (match ρ.lookup p.1 with | some (.val d) => some (p.1, .val d) | _ => none) else none
noncomputable def zName : Str := ⟨#[]⟩
noncomputable def isCF : Option NameKind → Bool
  | some .cell => true
  | some .free => true
  | _ => false
noncomputable def scopeOk (scope sc : Scope) : Bool := (scope.kind == .function) && (scope.names.lookup zName).isNone && scope.names.all fun p => (scope.names.lookup p.1 == some p.2) && (!(p.2 == .free) || isCF (sc.names.lookup p.1))
noncomputable def evComp (sc : Scope) (ρ : Rho) (elt : Expr) (gens : List Comprehension) (scope : Scope) : Option PyData :=
  match gens with
  | [] => none
  | g :: _ => if scopeOk scope sc && gens.all fun g => g.is_async == 0 then
      (evG r scope (relabelS scope sc) elt gens (compRho scope ρ) (itemsD r sc ρ g.iter)).bind mkList else none

noncomputable def evCallX (sc : Scope) (ρ : Rho) (f : Expr) (args : List Expr) (kws : List Keyword) (p : Pos) : Option PyData :=
  if kws.isEmpty then (match f with
    | .Name f _ => evCall r Φ srt sc ρ f args
    | .Attribute o m ap => if args.isEmpty && okBase o && (ap.endLine == p.line) then (r .value sc ρ o).bind (caseD m) else none
    | _ => none) else none
noncomputable def evCmp (sc : Scope) (ρ : Rho) (a : Expr) (ops : List CmpOp) (bs : List Expr) : Option PyData :=
  match ops with
  | [op] => (match bs with
    | [b] => if isSet b then none else (r .read sc ρ a).bind fun x => (r .read sc ρ b).bind fun y => cmpD op x y
    | _ => none)
  | _ => none
noncomputable def evSub (sc : Scope) (ρ : Rho) (v i : Expr) : Option PyData :=
  match i with
  | .Slice lo hi st _ => (r .read sc ρ v).bind fun d => (evO r sc ρ lo).bind fun l => (evO r sc ρ hi).bind fun h => (evO r sc ρ st).bind fun t => cutD d l h t
  | i => (r .read sc ρ v).bind fun d => (r .value sc ρ i).bind fun k => idxD d k
noncomputable def evV (rd : Bool) (sc : Scope) (ρ : Rho) : Expr → Option PyData
  | .Constant c _ _ => constD c
  | .Name x _ => nameD rd sc ρ x
  | .BinOp a op b _ => (r .read sc ρ a).bind fun x => (r .read sc ρ b).bind fun y => binD op x y
  | .Compare a ops bs _ => evCmp r sc ρ a ops bs
  | .IfExp t a b _ => (r .truth sc ρ t).bind fun c => match c with | .bool true => r .value sc ρ a | .bool false => r .value sc ρ b | _ => none
  | .Subscript v i _ => evSub r sc ρ v i
  | .List es _ => (evL r sc ρ es).bind mkList
  | .Tuple es _ _ => (evL r sc ρ es).bind fun ds => if ds.length ≤ top then some (.tuple ds) else none
  | .Call f args kws p => evCallX r Φ srt sc ρ f args kws p
  | .ListComp elt gens scope _ => evComp r sc ρ elt gens scope
  | _ => none

noncomputable def evB (op : BoolOp) (sc : Scope) (ρ : Rho) : List Expr → Option Bool
  | [] => some (op == .And)
  | e :: es => (r .truth sc ρ e).bind fun d => (truthD d).bind fun b => match op, b with
      | .And, false => some false
      | .Or, true => some true
      | _, _ => evB op sc ρ es
noncomputable def evT (sc : Scope) (ρ : Rho) : Expr → Option PyData
  | .BoolOp op es _ => (evB r op sc ρ es).map .bool
  | .Compare a ops bs _ => (match ops with
    | [op] => (match bs with
      | [b] => if isSet b then none else (r .read sc ρ a).bind fun x => (r .read sc ρ b).bind fun y => (cmpD op x y).bind fun d => (truthD d).map .bool
      | _ => none)
    | _ => none)
  | .Name x _ => (nameD false sc ρ x).bind fun d => (truthD d).map .bool
  | _ => none
noncomputable def evStep (md : Md) (sc : Scope) (ρ : Rho) (e : Expr) : Option PyData :=
  match md with
  | .value => if isFresh e then evV r Φ srt false sc ρ e else (Φ.hook r sc ρ e).or (evV r Φ srt false sc ρ e)
  | .read => if isFresh e then evV r Φ srt true sc ρ e else (Φ.hook r sc ρ e).or (evV r Φ srt true sc ρ e)
  | .truth => evT r sc ρ e
end
noncomputable def ev (Φ : Tab) (srt : PyData → Option PyData) : Nat → Md → Scope → Rho → Expr → Option PyData
  | 0, _, _, _, _ => none
  | n + 1, md, sc, ρ, e => evStep (ev Φ srt n) Φ srt md sc ρ e
end Mine

namespace Mine
open PySem PySem.Calls PySem.Spec PyProof.Rows PySem.W

noncomputable abbrev NoE : Value → Shared → Prop := fun _ _ => False

structure Room (A : Around) (k : Nat) : Prop where
  handled : A.handled = none
  depth : A.depth + k < recursionLimit
  units : A.units + 200 + 10 * k < cLine

theorem Room.cl {A : Around} {k : Nat} (r : Room A k) (n : Nat) (h : n ≤ 200) : A.units + n < cLine := by
  have := r.units; omega

/-- the top's facts that the evaluator's calls lean on -/
structure Ground0 (mg mb : Str → Option Value) (H0 : Heap) : Prop where
  g : H0.Ns mainGlobals mg
  b : H0.Ns builtinsNs mb
  nolimit : H0.NoLimit
  len : mg ("len" : Str) = none ∧ mb ("len" : Str) = some (.builtin "len")
  list : mg ("list" : Str) = none ∧ mb ("list" : Str) = some (.type "list")
  sorted : mg ("sorted" : Str) = none ∧ mb ("sorted" : Str) = some (.builtin "sorted")
  range : mg ("range" : Str) = none ∧ mb ("range" : Str) = some (.type "range")

noncomputable def VarHas (h : Heap) (env : Env) (x : Str) (v : Value) : Prop :=
  (env.kindOf x = some .local ∧ ∃ m, h.Ns env.locals m ∧ m x = some v) ∨
  ((env.kindOf x = some .cell ∨ env.kindOf x = some .free) ∧ ∃ c, env.cells.lookup x = some c ∧ h.IsCell c (some v))
theorem VarHas.stays {h h' : Heap} {env : Env} {x : Str} {v : Value} (k : Stays h h') (a : VarHas h env x v) : VarHas h' env x v := by
  rcases a with ⟨hk, m, n, e⟩ | ⟨hk, c, e, i⟩
  · exact .inl ⟨hk, m, n.keeps k, e⟩
  · exact .inr ⟨hk, c, e, i.keeps k⟩

/-- the class, and which object may have which list -/
structure Cls where
  addr : Addr
  ok : Addr → Addr → Prop
/-- a table object: its pairs' list at l -/
inductive HdrAt (Ca : Addr) (h : Heap) (x l : Addr) : Prop
  | mk (dx : Addr) (hs : _) (t : _) (e : h.get? x = some (instObj Ca dx)) (f : h.get? dx = some (dictOf [⟨hs, .str "_headers" t, .ref l⟩] 1))

inductive OwnR (U : Addr → Prop) (h : Heap) (v : Value) (ds : List PyData) : Prop
  | mk (a : Addr) (vs : List Value) (e : v = .ref a) (l : h.IsList a vs.toArray) (r : RepAll U h vs ds)
inductive HdrR (C : Cls) (U : Addr → Prop) (h : Heap) (v : Value) (ds : List PyData) : Prop
  | mk (x a : Addr) (vs : List Value) (e : v = .ref x) (i : HdrAt C.addr h x a) (l : h.IsList a vs.toArray) (r : RepAll U h vs ds)
inductive SlfR (C : Cls) (U : Addr → Prop) (h : Heap) (v : Value) (ds : List PyData) : Prop
  | mk (x a : Addr) (e : v = .ref x) (i : HdrAt C.addr h x a) (r : Rep U h (.ref a) (.list ds))
noncomputable def EntR (C : Cls) (U : Addr → Prop) (h : Heap) (v : Value) : Ent → Prop
  | .val d => Rep U h v d
  | .own ds => OwnR U h v ds
  | .hdr ds => HdrR C U h v ds
  | .slf ds => SlfR C U h v ds
  | .kwd => True
theorem HdrAt.stays {Ca : Addr} {h h' : Heap} {x l : Addr} (k : Stays h h') (a : HdrAt Ca h x l) : HdrAt Ca h' x l := by
  obtain ⟨dx, hs, t, e, f⟩ := a
  exact ⟨dx, hs, t, k _ _ e, k _ _ f⟩
theorem isList_stays {h h' : Heap} {a : Addr} {its : Array Value} (k : Stays h h') (x : h.IsList a its) : h'.IsList a its := let ⟨o, e, r⟩ := x; ⟨o, k _ _ e, r⟩
theorem isTuple_stays {h h' : Heap} {a : Addr} {its : Array Value} (k : Stays h h') (x : h.IsTuple a its) : h'.IsTuple a its := let ⟨o, e, r⟩ := x; ⟨o, k _ _ e, r⟩
theorem EntR.stays {C : Cls} {U : Addr → Prop} {h h' : Heap} {v : Value} {e : Ent} (k : Stays h h') (a : EntR C U h v e) : EntR C U h' v e := by
  cases e with
  | val d => exact Rep.stays k a
  | own ds => obtain ⟨a, vs, e, l, r⟩ := a; exact ⟨a, vs, e, isList_stays k l, r.stays k⟩
  | hdr ds => obtain ⟨x, a, vs, e, i, l, r⟩ := a; exact ⟨x, a, vs, e, i.stays k, isList_stays k l, r.stays k⟩
  | slf ds => obtain ⟨x, a, e, i, r⟩ := a; exact ⟨x, a, e, i.stays k, r.stays k⟩
  | kwd => trivial

structure Cx (C : Cls) (H0 : Heap) (U : Addr → Prop) (env : Env) (ρ : Rho) (h : Heap) : Prop where
  fn : env.scope.kind = .function
  gl : env.globals = mainGlobals
  bl : env.builtins = builtinsNs
  h0 : Stays H0 h
  fresh : ∀ b, h.get? b = none → U b
  cells : ∀ x, env.kindOf x = some .cell ∨ env.kindOf x = some .free → ∃ c, env.cells.lookup x = some c
  isCell : ∀ x c, env.cells.lookup x = some c → ∃ v, h.IsCell c v
  vars : ∀ x ent, look env.scope ρ x = some ent → ∃ v, VarHas h env x v ∧ EntR C U h v ent
theorem Cx.stays {C : Cls} {H0 : Heap} {U : Addr → Prop} {env : Env} {ρ : Rho} {h h' : Heap} (k : Stays h h') (c : Cx C H0 U env ρ h) : Cx C H0 U env ρ h' where
  fn := c.fn
  gl := c.gl
  bl := c.bl
  h0 := c.h0.trans k
  fresh := fun b e => c.fresh b (by
    cases q : h.get? b with
    | none => rfl
    | some o => rw [k b o q] at e; cases e)
  cells := c.cells
  isCell := fun x a e => let ⟨v, i⟩ := c.isCell x a e; ⟨v, i.keeps k⟩
  vars := fun x ent e => let ⟨v, a, b⟩ := c.vars x ent e; ⟨v, a.stays k, b.stays k⟩

inductive EvPost (U : Addr → Prop) (s : Shared) (d : PyData) (v : Value) (s' : Shared) : Prop
  | mk (h' : Heap) (tk : Nat) (e : s' = { s with heap := h', toks := tk }) (st : Stays s.heap h') (r : Rep U h' v d)
/-- read: the outermost list may be one that a name owns -/
noncomputable def RepR (U : Addr → Prop) (h : Heap) (v : Value) : PyData → Prop
  | .list ds => OwnR U h v ds
  | d => Rep U h v d
theorem Rep.toR {U : Addr → Prop} {h : Heap} {v : Value} {d : PyData} (x : Rep U h v d) : RepR U h v d := by
  cases d <;> first | exact x | (obtain ⟨a, vs, e, l, r, _⟩ := x.listInv; exact ⟨a, vs, e, l, r⟩)
theorem RepR.stays {U : Addr → Prop} {h h' : Heap} {v : Value} {d : PyData} (k : Stays h h') (x : RepR U h v d) : RepR U h' v d := by
  cases d <;> first | exact Rep.stays k x | (obtain ⟨a, vs, e, l, r⟩ := x; exact ⟨a, vs, e, isList_stays k l, r.stays k⟩)
theorem RepR.reads {U : Addr → Prop} {h : Heap} {v : Value} {d : PyData} (x : RepR U h v d) : ∃ as, Reads h v d as := by
  cases d <;> first
    | exact let ⟨as, r, _⟩ := x; ⟨as, r⟩
    | (obtain ⟨a, vs, rfl, ⟨o, ho, hc, n, hd⟩, ⟨as, r, _⟩⟩ := x; exact ⟨_, .list ho hc hd (by simpa using r)⟩)
inductive EvPostR (U : Addr → Prop) (s : Shared) (d : PyData) (v : Value) (s' : Shared) : Prop
  | mk (h' : Heap) (tk : Nat) (e : s' = { s with heap := h', toks := tk }) (st : Stays s.heap h') (r : RepR U h' v d)
theorem EvPost.toR {U : Addr → Prop} {s : Shared} {d : PyData} {v : Value} {s' : Shared} (x : EvPost U s d v s') : EvPostR U s d v s' :=
  let ⟨h', tk, e, k, r⟩ := x; ⟨h', tk, e, k, r.toR⟩
inductive EvPostT (s : Shared) (d : PyData) (b : Bool) (s' : Shared) : Prop
  | mk (h' : Heap) (tk : Nat) (e : s' = { s with heap := h', toks := tk }) (st : Stays s.heap h') (r : d = .bool b)

noncomputable abbrev lst (vs : List Value) (n : Nat) : Obj := { cls := .type "list", dict := none, data := .seq vs.toArray n, slots := #[] }
/-- a list made just now -/
inductive EvPostF (U : Addr → Prop) (s : Shared) (ds : List PyData) (v : Value) (s' : Shared) : Prop
  | mk (h' : Heap) (tk : Nat) (a : Addr) (vs : List Value) (n : Nat) (e : s' = { s with heap := h', toks := tk }) (st : Stays s.heap h') (ev : v = .ref a) (new : s.heap.get? a = none) (at_ : h'.get? a = some (lst vs n)) (r : RepAll (fun b => U b ∧ b ≠ a) h' vs ds)
theorem EvPostF.plain {U : Addr → Prop} {s : Shared} {ds : List PyData} {v : Value} {s' : Shared} (fr : ∀ b, s.heap.get? b = none → U b) (x : EvPostF U s ds v s') : EvPost U s (.list ds) v s' := by
  obtain ⟨h', tk, a, vs, n, e, k, rfl, ha, ho, r⟩ := x
  exact ⟨h', tk, e, k, .list ⟨_, ho, rfl, n, rfl⟩ (r.mono fun _ z => z.1) (fr a ha)⟩

section
variable (prog : Program) (w : World) (mg : Str → Option Value) (H0 : Heap)
noncomputable def SortOk (srt : PyData → Option PyData) : Prop := ∀ d e, srt d = some e → ∃ es, e = .list es ∧
  ∀ (A : Around) (s : Shared) (U : Addr → Prop) (v : Value), Room A 0 → RepR U s.heap v d → (∀ b, s.heap.get? b = none → U b) →
    wpAny (model prog w) A (call (.builtin "sorted") [v]) (EvPostF U s es) NoE s

noncomputable def Snd (C : Cls) (k : Nat) (r : Md → Scope → Rho → Expr → Option PyData) : Prop := ∀ (sc : Scope) (ρ : Rho) (e : Expr) (d : PyData) (env : Env) (A : Around) (s : Shared) (U : Addr → Prop),
  env.scope = sc → Cx C H0 U env ρ s.heap → Room A k →
  (r .value sc ρ e = some d → wpAny (model prog w) A (eval e env) (EvPost U s d) NoE s) ∧
  (r .read sc ρ e = some d → wpAny (model prog w) A (eval e env) (EvPostR U s d) NoE s) ∧
  (r .truth sc ρ e = some d → wpAny (model prog w) A (isTrue e env (eval e env)) (EvPostT s d) NoE s)
/-- what the table says of a name's calls is so -/
noncomputable def FnsOk (Φ : Tab) (k : Nat) : Prop := ∀ f args d, Φ.fn f args = some d → ∃ a o fd, mg f = some (.ref a) ∧ H0.get? a = some o ∧ o.data = .func fd ∧
  ∀ (A : Around) (s : Shared) (vs : List Value) (as : List Addr), Room A k → Stays H0 s.heap → ReadsAll s.heap vs args as →
    wpAny (model prog w) A (call (.ref a) vs) (fun r s' => ∃ h' tk bs, s' = { s with heap := h', toks := tk } ∧ Stays s.heap h' ∧ Reads h' r d bs ∧ ∀ b ∈ bs, b ∈ as ∨ s.heap.get? b = none) NoE s
/-- and of other expressions -/
noncomputable def HookOk (C : Cls) (Φ : Tab) (k : Nat) : Prop := ∀ (r : Md → Scope → Rho → Expr → Option PyData), Snd prog w H0 C k r → ∀ (ρ : Rho) (e : Expr) (d : PyData) (env : Env) (A : Around) (s : Shared) (U : Addr → Prop),
  Φ.hook r env.scope ρ e = some d → Cx C H0 U env ρ s.heap → Room A k → wpAny (model prog w) A (eval e env) (EvPost U s d) NoE s
structure SpecOk (C : Cls) (Φ : Tab) (k : Nat) : Prop where
  fns : FnsOk prog w mg H0 Φ k
  hook : HookOk prog w H0 C Φ k
end
end Mine

namespace Mine
open PySem PySem.Calls PySem.Spec PyProof.Rows PySem.W

section
variable {prog : Program} {w : World} {A : Around} {s : Shared} {env : Env} {C : Cls} {H0 : Heap} {U : Addr → Prop} {ρ : Rho} {mg mb : Str → Option Value} {k : Nat}

theorem evPost_val {d : PyData} {v : Value} (r : Rep U s.heap v d) : EvPost U s d v s := ⟨s.heap, s.toks, rfl, Stays.refl _, r⟩
theorem evPost_tok {d : PyData} {v : Value} {tk : Nat} (r : Rep U s.heap v d) : EvPost U s d v { s with toks := tk } := ⟨s.heap, tk, rfl, Stays.refl _, r⟩

theorem const_ok {c : Const} {kk : Nat} {pos : Pos} {d : PyData} (e : constD c = some d) : wpAny (model prog w) A (eval (.Constant c kk pos) env) (EvPost U s d) NoE s := by
  cases c <;> simp only [constD, Option.some.injEq, reduceCtorEq] at e <;> subst e
  · exact wpAny_Constant_none (evPost_val Rep.none')
  · exact wpAny_Constant_bool (evPost_val (.bool _))
  · exact wpAny_Constant_int (evPost_tok (.int _ _))
  · exact wpAny_Constant_str (evPost_tok (.str _ _))

theorem isVar_iff {k : Option NameKind} (h : isVar k = true) : k = some .local ∨ k = some .cell ∨ k = some .free := by
  cases k with
  | none => cases h
  | some k => cases k <;> first | exact .inl rfl | exact .inr (.inl rfl) | exact .inr (.inr rfl) | cases h

theorem look_ok {x : Str} {ent : Ent} (e : look env.scope ρ x = some ent) : isVar (env.kindOf x) = true ∧ (x == ("__debug__" : Str)) = false ∧ (x == ("__classdict__" : Str)) = false := by
  unfold look at e
  replace e := iteS e
  obtain ⟨h, e⟩ := e
  simp only [Bool.and_eq_true, okName, Bool.not_eq_true'] at h
  exact ⟨h.1, h.2.1, h.2.2⟩

theorem load_ok {x : Str} {ent : Ent} {v : Value} {Q : Value → Shared → Prop} {E : Value → Shared → Prop} (hk : env.scope.kind = .function) (e : look env.scope ρ x = some ent) (hv : VarHas s.heap env x v) (h : Q v s) :
    wpAny (model prog w) A (loadName env x) Q E s := by
  obtain ⟨_, _, hc⟩ := look_ok e
  rcases hv with ⟨hl, m, n, hx⟩ | ⟨hl, c, hcl, hi⟩
  · exact wpAny_loadName_local hk hl n hx h
  · rcases hl with hl | hl
    · exact wpAny_loadName_cell hk hl hcl hi h
    · exact wpAny_loadName_free hk hl hcl hi h hc

theorem name_ok {rd : Bool} {x : Str} {pos : Pos} {d : PyData} (c : Cx C H0 U env ρ s.heap) (e : nameD rd env.scope ρ x = some d) :
    wpAny (model prog w) A (eval (.Name x pos) env) (EvPostR U s d) NoE s ∧ (rd = false → wpAny (model prog w) A (eval (.Name x pos) env) (EvPost U s d) NoE s) := by
  unfold nameD at e
  split at e
  · rename_i d' q
    cases e
    obtain ⟨v, hv, r⟩ := c.vars x _ q
    obtain ⟨_, hd, _⟩ := look_ok q
    have z : wpAny (model prog w) A (eval (.Name x pos) env) (EvPost U s d) NoE s := wpAny_Name (load_ok c.fn q hv (evPost_val r)) hd
    exact ⟨wpAny_mono z (fun _ _ h => h.toR) fun _ _ h => h, fun _ => z⟩
  · rename_i ds q
    replace e := iteS e
    obtain ⟨hr, e⟩ := e
    cases e
    obtain ⟨v, hv, a, vs, e1, l, r⟩ := c.vars x _ q
    obtain ⟨_, hd, _⟩ := look_ok q
    refine ⟨wpAny_Name (load_ok c.fn q hv ⟨s.heap, s.toks, rfl, Stays.refl _, a, vs, e1, l, r⟩) hd, fun h => ?_⟩
    rw [hr] at h; cases h
  · cases e

/-- one evaluation behind another -/
theorem thenR {t : Sem Value} {d : PyData} {P : Value → Shared → Prop} (h : wpAny (model prog w) A t (EvPostR U s d) NoE s)
    (g : ∀ v h' tk, Stays s.heap h' → RepR U h' v d → P v { s with heap := h', toks := tk }) : wpAny (model prog w) A t P NoE s :=
  wpAny_mono h (fun v s₁ ⟨h', tk, e, k, r⟩ => by subst e; exact g v h' tk k r) fun _ _ x => x
theorem thenV {t : Sem Value} {d : PyData} {P : Value → Shared → Prop} (h : wpAny (model prog w) A t (EvPost U s d) NoE s)
    (g : ∀ v h' tk, Stays s.heap h' → Rep U h' v d → P v { s with heap := h', toks := tk }) : wpAny (model prog w) A t P NoE s :=
  wpAny_mono h (fun v s₁ ⟨h', tk, e, k, r⟩ => by subst e; exact g v h' tk k r) fun _ _ x => x
theorem thenT {t : Sem Bool} {d : PyData} {P : Bool → Shared → Prop} (h : wpAny (model prog w) A t (EvPostT s d) NoE s)
    (g : ∀ b h' tk, Stays s.heap h' → d = .bool b → P b { s with heap := h', toks := tk }) : wpAny (model prog w) A t P NoE s :=
  wpAny_mono h (fun v s₁ ⟨h', tk, e, k, r⟩ => by subst e; exact g v h' tk k r) fun _ _ x => x

theorem evPost_from {h' : Heap} {tk : Nat} {d : PyData} {v : Value} {s' : Shared} (k : Stays s.heap h') (x : EvPost U { s with heap := h', toks := tk } d v s') : EvPost U s d v s' :=
  let ⟨h'', tk', e, k', r⟩ := x; ⟨h'', tk', e, k.trans k', r⟩
theorem evPostR_from {h' : Heap} {tk : Nat} {d : PyData} {v : Value} {s' : Shared} (k : Stays s.heap h') (x : EvPostR U { s with heap := h', toks := tk } d v s') : EvPostR U s d v s' :=
  let ⟨h'', tk', e, k', r⟩ := x; ⟨h'', tk', e, k.trans k', r⟩
theorem evPostT_from {h' : Heap} {tk : Nat} {d : PyData} {v : Bool} {s' : Shared} (k : Stays s.heap h') (x : EvPostT { s with heap := h', toks := tk } d v s') : EvPostT s d v s' :=
  let ⟨h'', tk', e, k', r⟩ := x; ⟨h'', tk', e, k.trans k', r⟩
theorem none_of_stays {h h' : Heap} {a : Addr} (k : Stays h h') (e : h'.get? a = none) : h.get? a = none := by
  cases q : h.get? a with
  | none => rfl
  | some o => rw [k a o q] at e; cases e
theorem evPostF_from {h' : Heap} {tk : Nat} {ds : List PyData} {v : Value} {s' : Shared} (k : Stays s.heap h') (x : EvPostF U { s with heap := h', toks := tk } ds v s') : EvPostF U s ds v s' :=
  let ⟨h'', tk', a, vs, n, e, k', ev, ha, ho, r⟩ := x; ⟨h'', tk', a, vs, n, e, k.trans k', ev, none_of_stays k ha, ho, r⟩

theorem new_none (h : Heap) : h.get? h.objs.size = none := by
  cases q : h.get? h.objs.size with
  | none => rfl
  | some o => exact absurd (Heap.lt_size q) (Nat.lt_irrefl _)

/-- data that stands in a heap does not reach the next address -/
theorem repAll_new {h : Heap} {vs : List Value} {ds : List PyData} (r : RepAll U h vs ds) (h' : Heap) (k : Stays h h') : RepAll (fun b => U b ∧ b ≠ h.objs.size) h' vs ds := by
  obtain ⟨as, q, u⟩ := r
  refine ⟨as, readsAll_stays k q, fun a m => ⟨u a m, fun e => ?_⟩⟩
  obtain ⟨o, ho⟩ := readsAll_alloc q a m
  exact absurd (Heap.lt_size ho) (e ▸ Nat.lt_irrefl _)
where
  readsAll_alloc {h : Heap} {vs : List Value} {ds : List PyData} {as : List Addr} (r : ReadsAll h vs ds as) (a : Addr) (m : a ∈ as) : ∃ o, h.get? a = some o := let ⟨o, e, _⟩ := reads_dat2.2 _ _ _ r a m; ⟨o, e⟩
  reads_alloc {h : Heap} {v : Value} {d : PyData} {as : List Addr} (r : Reads h v d as) (a : Addr) (m : a ∈ as) : ∃ o, h.get? a = some o := let ⟨o, e, _⟩ := reads_dat2.1 _ _ _ r a m; ⟨o, e⟩

/-- a list put onto the heap -/
theorem evPostF_new {vs : List Value} {ds : List PyData} {tk : Nat} (r : RepAll U s.heap vs ds) : EvPostF U s ds (.ref s.heap.objs.size) { s with heap := s.heap.push (lst vs 0), toks := tk } :=
  ⟨_, _, _, vs, 0, rfl, stays_push _ _, rfl, new_none _, Heap.get?_push_size _ rfl, repAll_new r _ (stays_push _ _)⟩
end
end Mine

namespace Mine
open PySem PySem.Calls PySem.Spec PyProof.Rows PySem.W PySem.SeqAt

section
variable {prog : Program} {w : World} {A : Around} {s : Shared} {env : Env} {C : Cls} {H0 : Heap} {U : Addr → Prop} {ρ : Rho} {mg mb : Str → Option Value} {k : Nat}

theorem add_lists0 {l b : Addr} {vs ws : List Value} {Q : Value → Shared → Prop} {E : Value → Shared → Prop} (hl : s.heap.IsList l vs.toArray) (hb : s.heap.IsList b ws.toArray)
    (h : Q (.ref s.heap.objs.size) { s with heap := s.heap.push (lst (vs ++ ws) 0) }) (hsz : vs.length + ws.length ≤ sizeLine) :
    wpAny (model prog w) A (binaryOp .Add (.ref l) (.ref b)) Q E s := by
  obtain ⟨⟨cls, dd, data, sl⟩, ho, hc, n, hd⟩ := id hl
  obtain ⟨⟨cls2, dd2, data2, sl2⟩, ho2, hc2, n2, hd2⟩ := id hb
  simp only at hc hd hc2 hd2
  subst hc hd hc2 hd2
  have e : vs.toArray ++ ws.toArray = (vs ++ ws).toArray := by simp
  refine concat_meets ⟨_, ho, rfl⟩ ⟨_, ho2, rfl⟩ noFill_list_add seq_list_add PySem.F.slot_list_add PySem.F.entry_list_add (PySem.F.args_list_add_2 _ _) (list_addW l b vs.toArray ws.toArray n n2 dd dd2 sl sl2 (by simpa using hsz)) ⟨ho, ho2, ?_⟩
  rw [e]
  exact h

theorem top_le : top ≤ sizeLine := by decide
theorem mkList_some {ds : List PyData} {d : PyData} (e : mkList ds = some d) : d = .list ds ∧ ds.length ≤ top := by
  obtain ⟨h, q⟩ := iteS e
  cases q
  exact ⟨rfl, h⟩

theorem addL_ok {a b : List PyData} {x y : Value} (hx : RepR U s.heap x (.list a)) (hy : RepR U s.heap y (.list b)) (hl : (a ++ b).length ≤ top) :
    wpAny (model prog w) A (binaryOp .Add x y) (EvPostF U s (a ++ b)) NoE s := by
  obtain ⟨l, vs, rfl, hl1, r1⟩ := hx
  obtain ⟨m, ws, rfl, hl2, r2⟩ := hy
  refine add_lists0 hl1 hl2 ?_ ?_
  · exact evPostF_new (tk := s.toks) (r1.append r2)
  · rw [r1.length, r2.length, ← List.length_append]; exact Nat.le_trans hl top_le

theorem bits_le {a : Int} (h : a.natAbs ≤ 1073741824) : Builtin.Int.intBits a ≤ 64 := by
  unfold Builtin.Int.intBits
  split
  · omega
  · rename_i hz
    have hz' : a.natAbs ≠ 0 := by simpa using hz
    have := (Nat.log2_lt (n := a.natAbs) (k := 31) hz').mpr (by omega)
    omega
theorem bin_ok {op : Operator} {a b d : PyData} {x y : Value} (fr : ∀ c, s.heap.get? c = none → U c) (hx : RepR U s.heap x a) (hy : RepR U s.heap y b) (e : binD op a b = some d) :
    wpAny (model prog w) A (binaryOp op x y) (EvPost U s d) NoE s := by
  have twoI : ∀ {f : Int → Int → Option PyData}, intsD f a b = some d → ∃ i j t u, x = .int i t ∧ y = .int j u ∧ f i j = some d := fun q => by
    obtain ⟨i, j, rfl, rfl, q⟩ := intsD_eq q
    obtain ⟨t, rfl⟩ := Rep.intInv hx
    obtain ⟨u, rfl⟩ := Rep.intInv hy
    exact ⟨i, j, t, u, rfl, rfl, q⟩
  cases op with
  | Add =>
    cases a with
    | int _ =>
      obtain ⟨i, j, t, u, rfl, rfl, q⟩ := twoI (f := fun i j => some (.int (i + j))) e
      cases q
      exact PyProof.Rows.add_int (evPost_tok (.int _ _))
    | list l =>
      cases b with
      | list m =>
        obtain ⟨rfl, hl⟩ := mkList_some e
        exact wpAny_mono (addL_ok hx hy hl) (fun _ _ h => h.plain fr) fun _ _ h => h
      | _ => exact noSome e
    | _ => exact noSome e
  | FloorDiv =>
    obtain ⟨i, j, t, u, rfl, rfl, q⟩ := twoI (f := fun a b => if divOk b then some (.int (a.fdiv b)) else none) e
    obtain ⟨ho, q⟩ := iteS q
    cases q
    simp only [divOk, Bool.and_eq_true, decide_eq_true_eq] at ho
    exact PyProof.Rows.floordiv_int ho.2 (evPost_tok (.int _ _)) (Or.inl (PyProof.noPylong_small ho.1))
  | Mod =>
    obtain ⟨i, j, t, u, rfl, rfl, q⟩ := twoI (f := fun a b => if b = 0 then none else some (.int (a.fmod b))) e
    obtain ⟨ho, q⟩ := iteN q
    cases q
    exact PyProof.Rows.mod_int ho (evPost_tok (.int _ _))
  | Pow =>
    obtain ⟨i, j, t, u, rfl, rfl, q⟩ := twoI (f := fun a b => if powOk a b then some (.int (a ^ b.toNat)) else none) e
    obtain ⟨ho, q⟩ := iteS q
    cases q
    simp only [powOk, Bool.and_eq_true, decide_eq_true_eq] at ho
    refine PyProof.Rows.pow_int ho.1.1 ?_ (evPost_tok (.int _ _))
    have h1 : Builtin.Int.intBits _ ≤ 64 := bits_le (Nat.le_trans ho.2 (by decide))
    exact Int.le_trans (Int.mul_le_mul (Int.ofNat_le.mpr h1) ho.1.2 ho.1.1 (by decide)) (by decide)
  | _ => exact noSome e

theorem small_iff {d : PyData} (h : smallD d = true) : d.canLay0 = true ∧ d.depth ≤ 64 := by
  simpa [smallD] using h
theorem cmp_ok {op : CmpOp} {a b d : PyData} {x y : Value} (rm : Room A k) (hx : RepR U s.heap x a) (hy : RepR U s.heap y b) (e : cmpD op a b = some d) :
    wpAny (model prog w) A (compareOp op x y) (fun v s' => s' = s ∧ ∃ c, v = .bool c ∧ d = .bool c) NoE s := by
  obtain ⟨as, ra⟩ := hx.reads
  obtain ⟨bs, rb⟩ := hy.reads
  cases op with
  | Eq =>
    obtain ⟨ho, q⟩ := iteS e
    cases q
    obtain ⟨h1, h2⟩ := Bool.and_eq_true_iff.mp ho
    exact compareEq_reads ra rb (small_iff h1).1 (small_iff h2).1 (by have := rm.cl 64 (by omega); have := (small_iff h1).2; have := Nat.min_le_left a.depth b.depth; omega) ⟨rfl, _, rfl, rfl⟩
  | NotEq =>
    obtain ⟨ho, q⟩ := iteS e
    cases q
    obtain ⟨h1, h2⟩ := Bool.and_eq_true_iff.mp ho
    exact compareNe_reads ra rb (small_iff h1).1 (small_iff h2).1 (by have := rm.cl 64 (by omega); have := (small_iff h1).2; have := Nat.min_le_left a.depth b.depth; omega) ⟨rfl, _, rfl, rfl⟩
  | Is =>
    cases b with
    | none =>
      cases e; cases rb
      cases ra <;> exact wpAny_is_plain (by rfl) ⟨rfl, _, rfl, rfl⟩
    | _ => exact noSome e
  | IsNot =>
    cases b with
    | none =>
      cases e; cases rb
      cases ra <;> exact wpAny_isNot_plain (by rfl) ⟨rfl, _, rfl, rfl⟩
    | _ => exact noSome e
  | Lt =>
    obtain ⟨i, j, rfl, rfl, q⟩ := intsD_eq (f := fun a b => some (.bool (decide (a < b)))) e
    cases q; obtain ⟨_, rfl⟩ := Rep.intInv hx; obtain ⟨_, rfl⟩ := Rep.intInv hy
    exact PyProof.Rows.lt_int ⟨rfl, _, rfl, rfl⟩
  | In =>
    cases b with
    | list xs =>
      replace e := iteS e
      have ho := e.1
      cases e.2
      obtain ⟨h1, h2⟩ := Bool.and_eq_true_iff.mp ho
      have z := (small_iff h2).1
      refine in_list_reads rb ra (by simpa [PyData.canLay0] using z) (small_iff h1).1 ?_ ⟨rfl, _, rfl, rfl⟩
      have := rm.cl 65 (by omega); have := (small_iff h1).2; have := Nat.min_le_right (PyData.depthAll xs) a.depth; omega
    | _ => exact noSome e
  | NotIn =>
    cases b with
    | list xs =>
      replace e := iteS e
      have ho := e.1
      cases e.2
      obtain ⟨h1, h2⟩ := Bool.and_eq_true_iff.mp ho
      have z := (small_iff h2).1
      refine notIn_list_reads rb ra (by simpa [PyData.canLay0] using z) (small_iff h1).1 ?_ ⟨rfl, _, rfl, rfl⟩
      have := rm.cl 65 (by omega); have := (small_iff h1).2; have := Nat.min_le_right (PyData.depthAll xs) a.depth; omega
    | _ => exact noSome e
  | _ => exact noSome e
end
end Mine

namespace Mine
open PySem PySem.Calls PySem.Spec PyProof.Rows PySem.W PySem.SeqAt

section
variable {prog : Program} {w : World} {A : Around} {s : Shared} {env : Env} {C : Cls} {H0 : Heap} {U : Addr → Prop} {ρ : Rho} {mg mb : Str → Option Value} {k : Nat}

theorem sub_ops (slice : Expr) (o i : Value) : ∃ ops, subscripted slice false o i = operate ops (getItem o i) := by
  cases slice with
  | Slice a b c p => cases c <;> first | exact ⟨_, rfl⟩ | exact ⟨_, rfl⟩
  | _ => exact ⟨_, rfl⟩

theorem seqIndex_lt {i : Int} {n j : Nat} (h : seqIndex? i n = some j) : j < n ∧ (if i < 0 then i + n else i) = (j : Int) := by
  unfold seqIndex? at h
  by_cases hi : i < 0
  · simp only [hi, if_true, Option.ite_none_right_eq_some, Bool.and_eq_true, decide_eq_true_eq, Option.some.injEq] at h ⊢
    omega
  · simp only [hi, if_false, Option.ite_none_right_eq_some, Bool.and_eq_true, decide_eq_true_eq, Option.some.injEq] at h ⊢
    omega

theorem idx_ok {value slice : Expr} {a b d : PyData} {x y : Value} (hx : RepR U s.heap x a) (hy : Rep U s.heap y b) (e : idxD a b = some d) :
    wpAny (model prog w) A (subscriptTail value slice x y) (EvPost U s d) NoE s := by
  obtain ⟨ops, hs⟩ := sub_ops slice x y
  cases a with
  | list ds =>
    cases b with
    | int i =>
      obtain ⟨ho, q⟩ := iteS e
      obtain ⟨l, vs, rfl, hl, r⟩ := hx
      obtain ⟨t, rfl⟩ := Rep.intInv hy
      obtain ⟨j, hj, hd⟩ := Option.bind_eq_some_iff.mp q
      obtain ⟨v, hv, rv⟩ := r.get hd
      obtain ⟨lt, ej⟩ := seqIndex_lt hj
      simp only [idxOk, decide_eq_true_eq] at ho
      have hlen := r.length
      refine tail_any hl.typeIs slot_list_getitem.lookup ?_ hs
      by_cases hn : i < 0
      · rw [if_pos hn] at ej
        refine wpAny_getItem_list_neg hl hn ?_ (by omega) ?_ (evPost_val rv)
        · simp only [List.size_toArray]; omega
        · simp only [List.size_toArray]
          rw [hlen, ej]; simpa using hv
      · rw [if_neg hn] at ej
        refine wpAny_getItem_list hl (by omega) (by omega) ?_ (evPost_val rv)
        rw [ej]; simpa using hv
    | _ => exact noSome e
  | tuple ds =>
    cases b with
    | int i =>
      obtain ⟨ho, q⟩ := iteS e
      obtain ⟨l, vs, rfl, hl, r⟩ := Rep.tupleInv hx
      obtain ⟨t, rfl⟩ := Rep.intInv hy
      obtain ⟨j, hj, hd⟩ := Option.bind_eq_some_iff.mp q
      obtain ⟨v, hv, rv⟩ := r.get hd
      simp only [idxOk, decide_eq_true_eq] at ho
      have hlen := r.length
      exact tail_any (IsTup.typeIs hl) slot_tuple_getitem.lookup (PyProof.Rows.getItem_tuple hl (by omega) (by omega) (by simpa [hlen] using hj) (by simpa using hv) (evPost_val rv)) hs
    | _ => exact noSome e
  | _ => exact noSome e

/-- a slice's parts -/
theorem part_ok {r : Md → Scope → Rho → Expr → Option PyData} (S : Snd prog w H0 C k r) (c : Cx C H0 U env ρ s.heap) (rm : Room A k) {x : Option Expr} {i : Option Int} (e : evO r env.scope ρ x = some i) :
    wpAny (model prog w) A (evalPart x env) (fun v s' => IsPart v i ∧ ∃ h' tk, s' = { s with heap := h', toks := tk } ∧ Stays s.heap h') NoE s := by
  cases x with
  | none =>
    simp only [evO, Option.some.injEq] at e
    subst e
    exact wpAny_pure ⟨.none, s.heap, s.toks, rfl, Stays.refl _⟩
  | some x =>
    simp only [evO] at e
    obtain ⟨d, hd, e⟩ := Option.bind_eq_some_iff.mp e
    rw [evalPart_some]
    refine wpAny_mono ((S _ _ _ _ _ _ _ _ rfl c rm).1 hd) (fun v s' zP => ?_) fun _ _ h => h
    obtain ⟨h', tk, es, st, rp⟩ := zP
    cases d <;> simp only [Option.some.injEq, reduceCtorEq] at e
    subst e
    obtain ⟨t, rfl⟩ := rp.intInv
    exact ⟨.int _ _, h', tk, es, st⟩

theorem cut_list {vs : List Value} {ds : List PyData} {h : Heap} (r : RepAll U h vs ds) (lo hi : Option Int) : RepAll U h (slicePick vs.toArray lo hi none).toList (cutL ds lo hi) := by
  rw [slicePick_plain]
  simp only [List.size_toArray]
  rw [r.length]
  exact (r.drop _).take _
theorem cut_rev {vs : List Value} {ds : List PyData} {h : Heap} (r : RepAll U h vs ds) : RepAll U h (slicePick vs.toArray none none (some (-1))).toList ds.reverse := by
  rw [krv_pick]
  exact r.reverse

theorem cut_ok {value slice : Expr} {d e : PyData} {lo hi st : Option Int} {x vl vu vt : Value} (hx : RepR U s.heap x d) (pl : IsPart vl lo) (pu : IsPart vu hi) (pt : IsPart vt st) (q : cutD d lo hi st = some e)
    (tk : Nat) : ∃ es, e = .list es ∧ wpAny (model prog w) A (subscriptTail value slice x (.ref s.heap.objs.size)) (EvPostF U s es) NoE { s with heap := s.heap.push { cls := .type "slice", data := .fields #[vl, vu, vt] }, toks := tk } := by
  obtain ⟨ops, hs⟩ := sub_ops slice x (.ref s.heap.objs.size)
  have main : ∀ (ds es : List PyData), RepR U s.heap x (.list ds) → st ≠ some 0 → ds.length ≤ top → (∀ vs, RepAll U s.heap vs ds → RepAll U s.heap (slicePick vs.toArray lo hi st).toList es) →
      wpAny (model prog w) A (subscriptTail value slice x (.ref s.heap.objs.size)) (EvPostF U s es) NoE { s with heap := s.heap.push { cls := .type "slice", data := .fields #[vl, vu, vt] }, toks := tk } := by
    intro ds es hx h0 hlen hp
    obtain ⟨l, vs, rfl, hl, r⟩ := hx
    have rr := hp vs r
    have fin : EvPostF U s es (.ref (s.heap.push { cls := .type "slice", data := .fields #[vl, vu, vt] }).objs.size) { s with heap := (s.heap.push { cls := .type "slice", data := .fields #[vl, vu, vt] }).push { cls := .type "list", data := .seq (slicePick vs.toArray lo hi st) }, toks := tk } :=
      evPostF_from (s := s) (tk := tk) (stays_push s.heap _) (evPostF_new (s := { s with heap := s.heap.push _, toks := tk }) (vs := (slicePick vs.toArray lo hi st).toList) (rr.stays (stays_push _ _)))
    refine tail_any (Heap.IsList.typeIs (s := { s with heap := s.heap.push { cls := .type "slice", data := .fields #[vl, vu, vt] }, toks := tk }) (hl.push _)) list_getitem_lookup ?_ hs
    exact wpAny_getItem_list_slice (s := { s with heap := s.heap.push { cls := .type "slice", data := .fields #[vl, vu, vt] }, toks := tk }) (hl.push _) (Heap.IsSliceOf.new ..) pl pu pt h0 fin (by
      rw [List.size_toArray, r.length]; exact Nat.le_trans hlen top_le)
  cases d with
  | list ds =>
    cases st with
    | none =>
      obtain ⟨hl, q1⟩ := iteS (show (if ds.length ≤ top then some (PyData.list (cutL ds lo hi)) else none) = some e by cases lo <;> cases hi <;> exact q)
      cases q1
      exact ⟨_, rfl, main _ _ hx (by simp) hl fun vs r => cut_list r _ _⟩
    | some z =>
      exact noSome q
  | _ => exact noSome q
end
end Mine

namespace Mine
open PySem PySem.Calls PySem.Spec PyProof.Rows PySem.W PySem.SeqAt

section
variable {prog : Program} {w : World} {A : Around} {s : Shared} {env : Env} {C : Cls} {H0 : Heap} {U : Addr → Prop} {ρ : Rho} {mg mb : Str → Option Value} {k : Nat}
variable {r : Md → Scope → Rho → Expr → Option PyData}

noncomputable def EvPostL (U : Addr → Prop) (s : Shared) (ds : List PyData) (vs : List Value) (s' : Shared) : Prop :=
  ∃ h' tk, s' = { s with heap := h', toks := tk } ∧ Stays s.heap h' ∧ RepAll U h' vs ds

theorem star_cons {e : Expr} {rest : List Expr} (h : isStar e = false) : starEach (e :: rest) env = (false, eval e env) :: starEach rest env := by
  cases e <;> first | rfl | cases h

theorem evL_ok (S : Snd prog w H0 C k r) (rm : Room A k) (pos : Pos) : ∀ (es : List Expr) (ds : List PyData) (s : Shared), Cx C H0 U env ρ s.heap → evL r env.scope ρ es = some ds →
    wpAny (model prog w) A (spliced (backTo pos (starEach es env))) (EvPostL U s ds) NoE s
  | [], ds, s, _, e => by
    simp only [evL, Option.some.injEq] at e
    subst e
    exact wpAny_items_nil ⟨s.heap, s.toks, rfl, Stays.refl _, .nil⟩
  | e :: es, ds, s, c, q => by
    simp only [evL] at q
    split at q
    · cases q
    · rename_i hs
      obtain ⟨d, hd, q⟩ := Option.bind_eq_some_iff.mp q
      obtain ⟨ds', hds, q⟩ := Option.bind_eq_some_iff.mp q
      cases q
      refine wpAny_items_cons ?_ (star_cons (by simpa using hs))
      refine thenV ((S _ _ _ _ _ _ _ _ rfl c rm).1 hd) fun v h' tk st rp => ?_
      refine wpAny_mono (evL_ok S rm pos es ds' _ (c.stays st) hds) (fun vs s' zP => ?_) fun _ _ x => x
      obtain ⟨h'', tk', e', st', rr⟩ := zP
      exact ⟨h'', tk', e', st.trans st', .cons (rp.stays st') rr⟩

theorem starEach_any (pos : Pos) : ∀ (es : List Expr) (ds : List PyData), evL r env.scope ρ es = some ds → (backTo pos (starEach es env)).any (·.1) = false
  | [], _, _ => rfl
  | e :: es, ds, q => by
    simp only [evL] at q
    split at q
    · cases q
    · rename_i hs
      obtain ⟨d, hd, q⟩ := Option.bind_eq_some_iff.mp q
      obtain ⟨ds', hds, q⟩ := Option.bind_eq_some_iff.mp q
      rw [star_cons (by simpa using hs)]
      have := starEach_any pos es ds' hds
      unfold backTo at this ⊢
      rw [List.map_cons, List.any_cons, this]
      rfl

theorem listDisplay_ok (S : Snd prog w H0 C k r) (c : Cx C H0 U env ρ s.heap) (rm : Room A k) {es : List Expr} {pos : Pos} {ds : List PyData} (e : evL r env.scope ρ es = some ds) (hl : ds.length ≤ top) :
    wpAny (model prog w) A (eval (.List es pos) env) (EvPostF U s ds) NoE s := by
  refine wpAny_List (wpAny_mono (evL_ok S rm pos es ds s c e) (fun vs s' zP => ?_) fun _ _ x => x)
  obtain ⟨h', tk, e', st, rr⟩ := zP
  subst e'
  refine ⟨?_, evPostF_from (tk := tk) st (evPostF_new rr)⟩
  rw [rr.length]; exact Nat.le_trans hl top_le
theorem tupleDisplay_ok (S : Snd prog w H0 C k r) (c : Cx C H0 U env ρ s.heap) (rm : Room A k) {es : List Expr} {pos : Pos} {kk : Nat} {ds : List PyData} (e : evL r env.scope ρ es = some ds) (hl : ds.length ≤ top) :
    wpAny (model prog w) A (eval (.Tuple es kk pos) env) (EvPost U s (.tuple ds)) NoE s := by
  refine wpAny_Tuple (wpAny_mono (evL_ok S rm pos es ds s c e) (fun vs s' zP => ?_) fun _ _ x => x)
  obtain ⟨h', tk, e', st, rr⟩ := zP
  subst e'
  refine ⟨?_, ?_⟩
  · rw [rr.length]; exact Nat.le_trans hl top_le
  · refine ⟨_, tk, rfl, st.trans (stays_push _ _), .tuple (vs := vs) ⟨_, Heap.get?_push_size _ rfl, rfl, 0, rfl⟩ (rr.stays (stays_push _ _))⟩

theorem truth_ok {d : PyData} {b : Bool} {v : Value} (h : Rep U s.heap v d) (e : truthD d = some b) {Q : Bool → Shared → Prop} (q : Q b s) : wpAny (model prog w) A (truthy v) Q NoE s := by
  cases d <;> simp only [truthD, Option.some.injEq, reduceCtorEq] at e
  · subst e; rw [h.boolInv]; exact wpAny_truthy_bool q
  · subst e; obtain ⟨t, rfl⟩ := h.intInv; exact PyProof.Rows.truthy_int q

theorem len_ok {d e : PyData} {v : Value} (h : RepR U s.heap v d) (q : lenD d = some e) : wpAny (model prog w) A (call (.builtin "len") [v]) (EvPost U s e) NoE s := by
  cases d <;> simp only [lenD, reduceCtorEq] at q
  split at q
  · rename_i ds hl
    cases q
    obtain ⟨a, vs, rfl, l, rr⟩ := h
    have hn := rr.length
    refine Calls.call_len_list l ?_ ?_
    · rw [List.size_toArray, hn]; unfold top at hl; omega
    · rw [List.size_toArray, hn]; exact ⟨s.heap, _, rfl, Stays.refl _, .int _ _⟩
  · cases q
theorem copy_ok {d e : PyData} {v : Value} (h : RepR U s.heap v d) (q : copyD d = some e) : ∃ es, e = .list es ∧ wpAny (model prog w) A (call (.type "list") [v]) (EvPostF U s es) NoE s := by
  cases d <;> simp only [copyD, reduceCtorEq] at q
  obtain ⟨rfl, hl⟩ := mkList_some q
  obtain ⟨a, vs, rfl, ⟨o, ho, hc, n, hd⟩, rr⟩ := h
  refine ⟨_, rfl, call_list_seq a (.inl rfl) ho hc hd (fun h' c' st e => ?_) ?_⟩
  · exact ⟨h', s.toks, s.heap.objs.size, vs, c', rfl, st, rfl, new_none _, e, repAll_new rr _ st⟩
  · rw [List.size_toArray, rr.length]; exact Nat.le_trans hl top_le
end
end Mine

namespace Mine
open PySem PySem.Calls PySem.Spec PyProof.Rows PySem.W PySem.SeqAt

section
variable {prog : Program} {w : World} {A : Around} {s : Shared} {env : Env} {C : Cls} {H0 : Heap} {U : Addr → Prop} {ρ : Rho} {mg mb : Str → Option Value} {k : Nat}
variable {r : Md → Scope → Rho → Expr → Option PyData}

theorem ns_stays {h h' : Heap} {a : Addr} {m : Str → Option Value} (k : Stays h h') (x : h.Ns a m) : h'.Ns a m := x.keeps k

theorem glob_ok (G : Ground0 mg mb H0) (c : Cx C H0 U env ρ s.heap) {f : Str} {pos : Pos} {v : Value} {Q : Value → Shared → Prop} (hk : env.scope.names.lookup f = some .globalImplicit) (hd : (f == ("__debug__" : Str)) = false)
    (e : mg f = some v) (h : Q v s) : wpAny (model prog w) A (eval (.Name f pos) env) Q NoE s :=
  Name_function_global c.fn hk (loadGlobal_global (by rw [c.gl]; exact ns_stays c.h0 G.g) e h) hd
theorem built_ok (G : Ground0 mg mb H0) (c : Cx C H0 U env ρ s.heap) {f : Str} {pos : Pos} {v : Value} {Q : Value → Shared → Prop} (hk : env.scope.names.lookup f = some .globalImplicit) (hd : (f == ("__debug__" : Str)) = false)
    (e : mg f = none ∧ mb f = some v) (h : Q v s) : wpAny (model prog w) A (eval (.Name f pos) env) Q NoE s :=
  Name_function_global c.fn hk (loadGlobal_builtin (by rw [c.gl]; exact ns_stays c.h0 G.g) e.1 (by rw [c.bl]; exact ns_stays c.h0 G.b) e.2 h) hd

/-- one argument, read -/
theorem arg1_ok {P : List Value → Shared → Prop} {a : Expr} {pos : Pos} {d : PyData} (h : wpAny (model prog w) A (eval a env) (EvPostR U s d) NoE s) (hs : isStar a = false)
    (g : ∀ v h' tk, Stays s.heap h' → RepR U h' v d → P [v] { s with heap := h', toks := tk }) : wpAny (model prog w) A (spliced (backTo pos (starEach [a] env))) P NoE s := by
  refine wpAny_items_cons ?_ (star_cons hs)
  refine thenR h fun v h' tk st rp => wpAny_items_nil (g v h' tk st rp)

theorem oneArg {args : List Expr} {F : Expr → Option PyData} {d : PyData} (e : (match args with | [a] => if isStar a then none else F a | _ => none) = some d) : ∃ a, args = [a] ∧ isStar a = false ∧ F a = some d := by
  rcases args with _ | ⟨a, _ | ⟨_, _⟩⟩
  · exact noSome e
  · replace e := iteN e
    exact ⟨a, rfl, by simpa using e.1, e.2⟩
  · exact noSome e
theorem evCall_ok {Φ : Tab} {srt : PyData → Option PyData} (S : Snd prog w H0 C k r) (P : SpecOk prog w mg H0 C Φ k) (T : SortOk prog w srt) (G : Ground0 mg mb H0) (c : Cx C H0 U env ρ s.heap) (rm : Room A k) {f : Str} {fp pos : Pos} {args : List Expr} {d : PyData}
    (e : evCall r Φ srt env.scope ρ f args = some d) :
    wpAny (model prog w) A (eval (.Call (.Name f fp) args [] pos) env) (EvPost U s d) NoE s ∧
      (f = ("list" : Str) → ∃ ds, d = .list ds ∧ wpAny (model prog w) A (eval (.Call (.Name f fp) args [] pos) env) (EvPostF U s ds) NoE s) := by
  unfold evCall at e
  replace e := iteS e
  obtain ⟨hg, e⟩ := e
  simp only [okName, Bool.and_eq_true, beq_iff_eq, Bool.not_eq_true'] at hg
  obtain ⟨hk, hd, _⟩ := hg
  split at e
  · rename_i hf
    have hf := beq_iff_eq.mp hf
    subst hf
    refine ⟨?_, fun q => absurd q (by decide)⟩
    obtain ⟨a, rfl, hs, e⟩ := oneArg e
    obtain ⟨x, hx, e⟩ := Option.bind_eq_some_iff.mp e
    refine Call_ (built_ok G c hk hd G.len ?_)
    refine callWith_builtin1 ?_ (star_cons (by simpa using hs)) rfl
    exact arg1_ok ((S _ _ _ _ _ _ _ _ rfl c rm).2.1 hx) (by simpa using hs) fun v h' tk st rp => wpAny_mono (len_ok (s := { s with heap := h', toks := tk }) rp e) (fun _ _ h => evPost_from st h) fun _ _ h => h
  · split at e
    · rename_i hf
      have hf := beq_iff_eq.mp hf
      subst hf
      obtain ⟨a, rfl, hs, e⟩ := oneArg e
      obtain ⟨x, hx, e⟩ := Option.bind_eq_some_iff.mp e
      have z : ∃ ds, d = .list ds ∧ wpAny (model prog w) A (eval (.Call (.Name ("list" : Str) fp) [a] [] pos) env) (EvPostF U s ds) NoE s := by
        cases x <;> simp only [copyD, reduceCtorEq] at e
        obtain ⟨rfl, hl⟩ := mkList_some e
        refine ⟨_, rfl, Call_ (built_ok G c hk hd G.list ?_)⟩
        refine PyProof.Rows.callWith_type1 ?_ (star_cons (by simpa using hs)) rfl
        refine arg1_ok ((S _ _ _ _ _ _ _ _ rfl c rm).2.1 hx) (by simpa using hs) fun v h' tk st rp => ?_
        obtain ⟨es, q, z⟩ := copy_ok (prog := prog) (w := w) (A := A) (s := { s with heap := h', toks := tk }) rp (show copyD (.list _) = some (.list _) by simp only [copyD]; exact e)
        cases q
        exact wpAny_mono z (fun _ _ h => evPostF_from st h) fun _ _ h => h
      obtain ⟨ds, rfl, z⟩ := z
      exact ⟨wpAny_mono z (fun _ _ h => h.plain c.fresh) fun _ _ h => h, fun _ => ⟨ds, rfl, z⟩⟩
    · rename_i hnl
      refine ⟨?_, fun q => absurd (by rw [q]; exact beq_self_eq_true _) hnl⟩
      split at e
      · rename_i hf
        have hf := beq_iff_eq.mp hf
        subst hf
        obtain ⟨a, rfl, hs, e⟩ := oneArg e
        obtain ⟨x, hx, e⟩ := Option.bind_eq_some_iff.mp e
        obtain ⟨es, rfl, T⟩ := T x d e
        refine Call_ (built_ok G c hk hd G.sorted ?_)
        refine callWith_builtin1 ?_ (star_cons (by simpa using hs)) rfl
        exact arg1_ok ((S _ _ _ _ _ _ _ _ rfl c rm).2.1 hx) (by simpa using hs) fun v h' tk st rp =>
          wpAny_mono (T A { s with heap := h', toks := tk } U v ⟨rm.handled, by have := rm.depth; omega, by have := rm.units; omega⟩ rp (c.stays st).fresh) (fun _ _ h => evPost_from st (h.plain (c.stays st).fresh)) fun _ _ h => h
      · split at e
        · cases e
        · rename_i args' hne
          obtain ⟨ds, hds, e⟩ := Option.bind_eq_some_iff.mp e
          obtain ⟨a, o, fd, hm, ho, hfd, P⟩ := P.fns f ds d e
          refine Call_ (glob_ok G c hk hd hm ?_)
          cases args with
          | nil => exact absurd rfl hne
          | cons x rest =>
            have hs : isStar x = false := by
              simp only [evL] at hds
              split at hds
              · cases hds
              · rename_i hs; simpa using hs
            refine callWith_def hfd ?_ (star_cons hs)
            refine wpAny_mono (evL_ok S rm pos _ ds s c hds) (fun vs s' zP => ?_) fun _ _ h => h
            obtain ⟨h', tk, es, st, rr⟩ := zP
            subst es
            refine ⟨(c.h0.trans st) _ _ ho, ?_⟩
            obtain ⟨as, rr, u⟩ := rr
            refine wpAny_mono (P A { s with heap := h', toks := tk } vs as rm (c.h0.trans st) rr) (fun v s' zP => ?_) fun _ _ h => h
            obtain ⟨h'', tk', bs, es, st', rd, hb⟩ := zP
            refine ⟨h'', tk', es, st.trans st', bs, rd, fun b m => (hb b m).elim (u b) fun z => (c.stays st).fresh b z⟩

theorem case_ok {o : Expr} {m : Str} {ap pos : Pos} {d e : PyData} (h : wpAny (model prog w) A (eval o env) (EvPost U s d) NoE s) (hb : okBase o = true) (hl : (ap.endLine == pos.line) = true) (q : caseD m d = some e) :
    wpAny (model prog w) A (eval (.Call (.Attribute o m ap) [] [] pos) env) (EvPost U s e) NoE s := by
  refine wpAny_Call_method_lateS ?_ rfl hl ?_
  · cases o <;> first | rfl | cases hb
  refine thenV h fun v h' tk st rp => ?_
  cases d <;> simp only [caseD, reduceCtorEq] at q
  split at q
  · rename_i x hx
    obtain ⟨t, rfl⟩ := rp.strInv
    split at q
    · rename_i hm; have hm := beq_iff_eq.mp hm; subst hm; cases q
      exact SB.lower (fit_lower (by omega)) ⟨h', _, rfl, st, .str _ _⟩
    · split at q
      · rename_i hm; have hm := beq_iff_eq.mp hm; subst hm; cases q
        exact SB.upper (fit_upper (by omega)) ⟨h', _, rfl, st, .str _ _⟩
      · split at q
        · rename_i hm; have hm := beq_iff_eq.mp hm; subst hm; cases q
          exact SB.swapcase (fit_swapcase (by omega)) ⟨h', _, rfl, st, .str _ _⟩
        · cases q
  · cases q

theorem evB_ok (S : Snd prog w H0 C k r) (rm : Room A k) (op : BoolOp) : ∀ (es : List Expr) (b : Bool) (s : Shared), Cx C H0 U env ρ s.heap → evB r op env.scope ρ es = some b →
    wpAny (model prog w) A (allTrue op es env) (fun b' s' => b' = b ∧ ∃ h' tk, s' = { s with heap := h', toks := tk } ∧ Stays s.heap h') NoE s
  | [], b, s, _, e => by
    simp only [evB, Option.some.injEq] at e
    subst e
    exact wpAny_pure ⟨rfl, s.heap, s.toks, rfl, Stays.refl _⟩
  | x :: es, b, s, c, e => by
    simp only [evB] at e
    obtain ⟨d, hd, e⟩ := Option.bind_eq_some_iff.mp e
    obtain ⟨b1, hb, e⟩ := Option.bind_eq_some_iff.mp e
    have z := (S _ _ _ _ _ _ _ _ rfl c rm).2.2 hd
    cases op with
    | And =>
      refine wpAny_allTrue_And_cons (thenT z fun v h' tk st q => ?_)
      subst q
      simp only [truthD, Option.some.injEq] at hb
      subst hb
      cases v with
      | true =>
        simp only [if_true] at e ⊢
        refine wpAny_mono (evB_ok S rm .And es b _ (c.stays st) e) (fun b' s' ⟨q, h'', tk', es', st'⟩ => ⟨q, h'', tk', es', st.trans st'⟩) fun _ _ h => h
      | false =>
        simp only [Option.some.injEq] at e
        subst e
        exact ⟨rfl, h', tk, rfl, st⟩
    | Or =>
      refine wpAny_allTrue_Or_cons (thenT z fun v h' tk st q => ?_)
      subst q
      simp only [truthD, Option.some.injEq] at hb
      subst hb
      cases v with
      | false =>
        refine wpAny_mono (evB_ok S rm .Or es b _ (c.stays st) e) (fun b' s' ⟨q, h'', tk', es', st'⟩ => ⟨q, h'', tk', es', st.trans st'⟩) fun _ _ h => h
      | true =>
        simp only [Option.some.injEq] at e
        subst e
        exact ⟨rfl, h', tk, rfl, st⟩
end
end Mine

namespace Mine
open PySem PySem.Calls PySem.Spec PyProof.Rows PySem.W PySem.SeqAt

/-- the addresses that data may lie at: allowed ones, not the frame's, not an owned list's -/
noncomputable def UU (P : Addr → Prop) (env : Env) (X : List (Str × Addr)) (b : Addr) : Prop := P b ∧ b ≠ env.locals ∧ ∀ p ∈ X, p.2 ≠ b

inductive OwnS (U : Addr → Prop) (X : List (Str × Addr)) (h : Heap) (x : Str) (v : Value) (ds : List PyData) : Prop
  | mk (a : Addr) (vs : List Value) (n : Nat) (e1 : v = .ref a) (e2 : (x, a) ∈ X) (e3 : h.get? a = some (lst vs n)) (r : RepAll U h vs ds)
inductive HdrS (C : Cls) (B : Addr → Option Obj) (U : Addr → Prop) (X : List (Str × Addr)) (h : Heap) (x : Str) (v : Value) (ds : List PyData) : Prop
  | mk (y dx : Addr) (hs : _) (t : _) (a : Addr) (vs : List Value) (n : Nat) (e1 : v = .ref y ∧ C.ok y a) (e2 : B y = some (instObj C.addr dx)) (e3 : B dx = some (dictOf [⟨hs, .str "_headers" t, .ref a⟩] 1)) (e4 : (x, a) ∈ X) (e5 : h.get? a = some (lst vs n)) (r : RepAll U h vs ds)
inductive SlfS (C : Cls) (B : Addr → Option Obj) (U : Addr → Prop) (h : Heap) (v : Value) (ds : List PyData) : Prop
  | mk (y dx : Addr) (hs : _) (t : _) (a : Addr) (e1 : v = .ref y ∧ C.ok y a) (e2 : B y = some (instObj C.addr dx)) (e3 : B dx = some (dictOf [⟨hs, .str "_headers" t, .ref a⟩] 1)) (r : Rep U h (.ref a) (.list ds))
/-- what ** binds when no name is left: an empty dict that nobody changes -/
noncomputable def kwObj : Obj := { cls := .type "dict", data := .dict #[] }
inductive KwdS (B : Addr → Option Obj) (v : Value) : Prop
  | mk (d : Addr) (e1 : v = .ref d) (e2 : B d = some kwObj) (e3 : d ≠ sysModules)
noncomputable def EntS (C : Cls) (B : Addr → Option Obj) (U : Addr → Prop) (X : List (Str × Addr)) (h : Heap) (x : Str) (v : Value) : Ent → Prop
  | .val d => Rep U h v d
  | .own ds => OwnS U X h x v ds
  | .hdr ds => HdrS C B U X h x v ds
  | .slf ds => SlfS C B U h v ds
  | .kwd => KwdS B v

structure St (C : Cls) (H0 : Heap) (P : Addr → Prop) (B : Addr → Option Obj) (env : Env) (own : Str → Bool) (X : List (Str × Addr)) (ρ : Rho) (h : Heap) : Prop where
  fn : env.scope.kind = .function
  gl : env.globals = mainGlobals
  bl : env.builtins = builtinsNs
  h0 : ∀ a o, H0.get? a = some o → B a = some o
  base : ∀ a o, B a = some o → h.get? a = some o
  fresh : ∀ b, h.get? b = none → P b
  ns : ∃ m, h.Ns env.locals m
  bL : B env.locals = none
  mine : ∀ x, own x = true → env.kindOf x = some .local ∨ (env.kindOf x = some .cell ∧ ∃ c v, env.cells.lookup x = some c ∧ h.IsCell c v ∧ B c = none)
  apart : ∀ x y c, env.cells.lookup x = some c → env.cells.lookup y = some c → B c = none → x = y
  cells : ∀ x, env.kindOf x = some .cell ∨ env.kindOf x = some .free → ∃ c, env.cells.lookup x = some c
  isCell : ∀ x c, env.cells.lookup x = some c → ∃ v, h.IsCell c v
  xs : ∀ p ∈ X, B p.2 = none ∧ p.2 ≠ env.locals ∧ ∃ vs n, h.get? p.2 = some (lst vs n)
  xp : ∀ p ∈ X, P p.2
  xnd : ∀ p ∈ X, ∀ q ∈ X, p.2 = q.2 → p.1 = q.1
  xfn : ∀ p ∈ X, ∀ q ∈ X, p.1 = q.1 → p.2 = q.2
  vars : ∀ x ent, look env.scope ρ x = some ent → ∃ v, VarHas h env x v ∧ EntS C B (UU P env X) X h x v ent

section
variable {prog : Program} {w : World} {A : Around} {s : Shared} {env : Env} {C : Cls} {H0 : Heap} {P : Addr → Prop} {B : Addr → Option Obj} {own : Str → Bool} {X : List (Str × Addr)} {ρ : Rho} {h h' : Heap} {k : Nat}

theorem St.freshU (t : St C H0 P B env own X ρ h) : ∀ b, h.get? b = none → UU P env X b := by
  intro b e
  refine ⟨t.fresh b e, fun q => ?_, fun p hp q => ?_⟩
  · obtain ⟨m, o, es, ep, ho, _⟩ := t.ns
    rw [← q, e] at ho; cases ho
  · obtain ⟨_, _, vs, n, ho⟩ := t.xs p hp
    rw [q, e] at ho; cases ho

theorem St.cx (t : St C H0 P B env own X ρ h) : Cx C H0 (UU P env X) env ρ h where
  fn := t.fn
  gl := t.gl
  bl := t.bl
  h0 := fun a o e => t.base a o (t.h0 a o e)
  fresh := t.freshU
  cells := t.cells
  isCell := t.isCell
  vars := fun x ent e => by
    obtain ⟨v, hv, he⟩ := t.vars x ent e
    refine ⟨v, hv, ?_⟩
    cases ent with
    | val d => exact he
    | own ds => obtain ⟨a, vs, n, e1, _, e2, r⟩ := he; exact ⟨a, vs, e1, ⟨_, e2, rfl, n, rfl⟩, r⟩
    | slf ds => obtain ⟨y9, dx, hs9, tk9, a9, e1, e2, e3, r⟩ := he; exact ⟨y9, a9, e1.1, ⟨dx, hs9, tk9, t.base _ _ e2, t.base _ _ e3⟩, r⟩
    | kwd => trivial
    | hdr ds => obtain ⟨y, dx, hs, tk, a, vs, n, e1, e2, e3, _, e4, r⟩ := he; exact ⟨y, a, vs, e1.1, ⟨dx, hs, tk, t.base _ _ e2, t.base _ _ e3⟩, ⟨_, e4, rfl, n, rfl⟩, r⟩

theorem St.stays (k : Stays h h') (t : St C H0 P B env own X ρ h) : St C H0 P B env own X ρ h' where
  fn := t.fn
  gl := t.gl
  bl := t.bl
  h0 := t.h0
  base := fun a o e => k a o (t.base a o e)
  fresh := fun b e => t.fresh b (none_of_stays k e)
  ns := let ⟨m, n⟩ := t.ns; ⟨m, n.keeps k⟩
  bL := t.bL
  mine := fun x e => (t.mine x e).imp id fun ⟨a, c, v, e1, e2, e3⟩ => ⟨a, c, v, e1, e2.keeps k, e3⟩
  apart := t.apart
  cells := t.cells
  isCell := fun x c e => let ⟨v, i⟩ := t.isCell x c e; ⟨v, i.keeps k⟩
  xs := fun p hp => let ⟨a, b, vs, n, e⟩ := t.xs p hp; ⟨a, b, vs, n, k _ _ e⟩
  xp := t.xp
  xnd := t.xnd
  xfn := t.xfn
  vars := fun x ent e => by
    obtain ⟨v, hv, he⟩ := t.vars x ent e
    refine ⟨v, hv.stays k, ?_⟩
    cases ent with
    | val d => exact Rep.stays k he
    | own ds => obtain ⟨a, vs, n, e1, e2, e3, r⟩ := he; exact ⟨a, vs, n, e1, e2, k _ _ e3, r.stays k⟩
    | slf ds => obtain ⟨y9, dx, hs9, tk9, a9, e1, e2, e3, r⟩ := he; exact ⟨y9, dx, hs9, tk9, a9, e1, e2, e3, r.stays k⟩
    | kwd => exact he
    | hdr ds => obtain ⟨y, dx, hs, tk, a, vs, n, e1, e2, e3, e4, e5, r⟩ := he; exact ⟨y, dx, hs, tk, a, vs, n, e1, e2, e3, e4, k _ _ e5, r.stays k⟩

theorem noTup_dict {h : Heap} {a : Addr} {m : Str → Option Value} (n : h.Ns a m) : NoTup h a := by
  obtain ⟨o, es, ep, ho, hd, _⟩ := n
  intro o' vs n' e _ q
  rw [ho] at e; cases e; rw [hd] at q; cases q
theorem noTup_cell {h : Heap} {a : Addr} {v : Option Value} (n : h.IsCell a v) : NoTup h a := by
  obtain ⟨o, ho, hd⟩ := n
  intro o' vs n' e _ q
  rw [ho] at e; cases e; rw [hd] at q; cases q
theorem noTup_list {h : Heap} {a : Addr} {vs : List Value} {n : Nat} (e : h.get? a = some (lst vs n)) : NoTup h a := by
  intro o' vs n' e' c q
  rw [e] at e'; cases e'; exact absurd (show Value.type "list" = Value.type "tuple" from c) (by decide)

theorem dat_nocell {h : Heap} {c : Addr} {w : Option Value} (n : h.IsCell c w) (q : ∃ o, h.get? c = some o ∧ IsDat o) : False := by
  obtain ⟨o, e, d⟩ := q
  obtain ⟨o', ho, hd⟩ := n
  rw [ho] at e; cases e
  rcases d with ⟨_, _, d⟩ | ⟨_, _, d⟩ <;> (rw [hd] at d; cases d)
theorem reads_nocell {h : Heap} {c : Addr} {w : Option Value} (n : h.IsCell c w) {v d as} (r : Reads h v d as) : c ∉ as := fun m => dat_nocell n (reads_dat2.1 _ _ _ r c m)
theorem readsAll_nocell {h : Heap} {c : Addr} {w : Option Value} (n : h.IsCell c w) {vs ds as} (r : ReadsAll h vs ds as) : c ∉ as := fun m => dat_nocell n (reads_dat2.2 _ _ _ r c m)

/-- what is not a place of data may change -/
noncomputable def Dead (U : Addr → Prop) (h : Heap) (b : Addr) : Prop := NoTup h b ∧ (¬ U b ∨ ∃ v, h.IsCell b v)
theorem Rep.dead {U : Addr → Prop} {b : Addr} {v : Value} {d : PyData} (D : Dead U h b) (hs : Heap.SameBut b h h') (x : Rep U h v d) : Rep U h' v d := by
  rcases D.2 with n | ⟨_, n⟩
  · exact x.but hs D.1 n
  · obtain ⟨as, r, u⟩ := x; exact ⟨as, reads_but hs D.1 r (reads_nocell n r), u⟩
theorem RepAll.dead {U : Addr → Prop} {b : Addr} {vs : List Value} {ds : List PyData} (D : Dead U h b) (hs : Heap.SameBut b h h') (x : RepAll U h vs ds) : RepAll U h' vs ds := by
  rcases D.2 with n | ⟨_, n⟩
  · exact x.but hs D.1 n
  · obtain ⟨as, r, u⟩ := x; exact ⟨as, readsAll_but hs D.1 r (readsAll_nocell n r), u⟩

noncomputable def dropX (X : List (Str × Addr)) (x : Str) : List (Str × Addr) := X.filter fun p => !(p.1 == x)
theorem mem_dropX {p : Str × Addr} {x : Str} : p ∈ dropX X x ↔ p ∈ X ∧ p.1 ≠ x := by
  unfold dropX; rw [List.mem_filter]; simp
theorem uu_drop {x : Str} {b : Addr} (u : UU P env X b) : UU P env (dropX X x) b := ⟨u.1, u.2.1, fun p hp => u.2.2 p (mem_dropX.mp hp).1⟩

theorem look_set {sc : Scope} {x y : Str} {e ent : Ent} (q : look sc (ρ.set x e) y = some ent) : (y = x ∧ ent = e) ∨ (y ≠ x ∧ look sc ρ y = some ent) := by
  unfold look at q ⊢
  split at q
  · rename_i c
    unfold Rho.set at q
    rw [List.lookup_cons] at q
    by_cases hxy : y = x
    · subst hxy
      rw [beq_self_eq_true] at q
      exact .inl ⟨rfl, (Option.some.inj q).symm⟩
    · have : (y == x) = false := by simpa using hxy
      rw [this] at q
      refine .inr ⟨hxy, ?_⟩
      rw [if_pos c, ← q]
      clear q
      induction ρ with
      | nil => rfl
      | cons p r ih =>
        obtain ⟨z, ez⟩ := p
        rw [List.filter_cons]
        by_cases hz : z = x
        · subst hz
          simp only [beq_self_eq_true, Bool.not_true, Bool.false_eq_true, if_false]
          rw [List.lookup_cons, this]
          exact ih
        · have hz' : (z == x) = false := by simpa using hz
          simp only [hz', Bool.not_false, if_true]
          rw [List.lookup_cons, List.lookup_cons]
          cases hyz : y == z with
          | true => rfl
          | false => exact ih
  · cases q

/-- a store into a name of one's own -/
theorem store_raw (t : St C H0 P B env own X ρ s.heap) {x : Str} {v : Value} (hx : own x = true) {Q : Unit → Shared → Prop}
    (g : ∀ h' tk b, Heap.SameBut b s.heap h' → B b = none → (∃ o, h'.get? b = some o) → (∀ c u, s.heap.IsCell c u → ∃ u', h'.IsCell c u') → (b = env.locals ∨ ∃ u, s.heap.IsCell b u) → (∃ m, h'.Ns env.locals m) → (∀ z, own z = true → env.kindOf z = some .local ∨ (env.kindOf z = some .cell ∧ ∃ c u, env.cells.lookup z = some c ∧ h'.IsCell c u ∧ B c = none)) →
      VarHas h' env x v → (∀ y u, y ≠ x → VarHas s.heap env y u → VarHas h' env y u) → Q () { s with heap := h', toks := tk }) :
    wpAny (model prog w) A (storeName env x v) Q NoE s := by
  rcases t.mine x hx with hl | ⟨hl, c, u, hc, hi, hb⟩
  · obtain ⟨m, hn⟩ := t.ns
    refine wpAny_storeName_local hl hn (fun h' hn' hs => ?_) (by rw [t.fn]; rfl)
    have kc : ∀ c u, s.heap.IsCell c u → h'.IsCell c u := fun c u i => by
      obtain ⟨o, es, ep, ho, hd, _⟩ := hn
      refine i.sameBut hs fun q => ?_
      obtain ⟨o', ho', hd'⟩ := i
      rw [q, ho] at ho'; cases ho'; rw [hd] at hd'; cases hd'
    refine g h' _ env.locals hs t.bL (let ⟨o, _, _, ho, _⟩ := hn'; ⟨o, ho⟩) (fun c u i => ⟨u, kc c u i⟩) (.inl rfl) ⟨_, hn'⟩ (fun z hz => ?_) (.inl ⟨hl, _, hn', by simp⟩) (fun y u hy hv => ?_)
    · exact (t.mine z hz).imp id fun ⟨a, c, u, e1, e2, e3⟩ => ⟨a, c, u, e1, kc _ _ e2, e3⟩
    · rcases hv with ⟨hk, m', hm', e⟩ | ⟨hk, c, e, i⟩
      · obtain ⟨o, es, ep, ho, hd, _, hf⟩ := hn
        obtain ⟨o2, es2, ep2, ho2, hd2, _, hf2⟩ := hm'
        rw [ho] at ho2; cases ho2; rw [hd] at hd2; cases hd2
        refine .inl ⟨hk, _, hn', ?_⟩
        simp only [hy, if_false]
        rw [← hf, hf2]; exact e
      · exact .inr ⟨hk, c, e, kc _ _ i⟩
  · refine wpAny_storeName_cell t.fn hl hc hi fun h' hi' hs => ?_
    have kL : ∀ m, s.heap.Ns env.locals m → h'.Ns env.locals m := fun m n => n.sameBut hs fun q => by
      obtain ⟨o, es, ep, ho, hd, _⟩ := n
      obtain ⟨o', ho', hd'⟩ := hi
      rw [← q, ho] at ho'; cases ho'; rw [hd] at hd'; cases hd'
    refine g h' s.toks c hs hb (let ⟨o, ho, _⟩ := hi'; ⟨o, ho⟩) (fun c' u' i => if q : c' = c then ⟨_, q ▸ hi'⟩ else ⟨u', i.sameBut hs q⟩) (.inr ⟨u, hi⟩) (let ⟨m, n⟩ := t.ns; ⟨m, kL m n⟩) (fun z hz => ?_) (.inr ⟨.inl hl, c, hc, hi'⟩) (fun y u' hy hv => ?_)
    · rcases t.mine z hz with q | ⟨a, c', u', e1, e2, e3⟩
      · exact .inl q
      · by_cases hcc : c' = c
        · subst hcc; exact .inr ⟨a, c', _, e1, hi', e3⟩
        · exact .inr ⟨a, c', u', e1, e2.sameBut hs hcc, e3⟩
    · rcases hv with ⟨hk, m', hm', e⟩ | ⟨hk, c', e, i⟩
      · exact .inl ⟨hk, m', kL _ hm', e⟩
      · refine .inr ⟨hk, c', e, i.sameBut hs fun q => ?_⟩
        subst q
        exact hy (t.apart y x c' e hc hb)

noncomputable def KeepL (h h' : Heap) : Prop := ∀ a o, h.get? a = some o → (∃ vs n, o.data = .seq vs n) → h'.get? a = some o
theorem KeepL.stays (k : Stays h h') : KeepL h h' := fun a o e _ => k a o e
theorem KeepL.trans {h'' : Heap} (k : KeepL h h') (k' : KeepL h' h'') : KeepL h h'' := fun a o e z => k' a o (k a o e z) z
noncomputable def KeepO (env : Env) (h h' : Heap) : Prop := ∀ a o, h.get? a = some o → a ≠ env.locals → (∀ v, o.data ≠ .cell v) → h'.get? a = some o
noncomputable def Liv (U : Addr → Prop) (h h' : Heap) : Prop := ∀ v d as, Reads h v d as → (∀ a ∈ as, U a) → Reads h' v d as
inductive BindPost (U : Addr → Prop) (s : Shared) (Q : Heap → Prop) (s' : Shared) : Prop
  | mk (h' : Heap) (tk : Nat) (e : s' = { s with heap := h', toks := tk }) (lv : Liv U s.heap h') (kl : KeepL s.heap h') (q : Q h')
theorem Liv.rep {U : Addr → Prop} {v : Value} {d : PyData} (k : Liv U h h') (x : Rep U h v d) : Rep U h' v d := let ⟨as, r, u⟩ := x; ⟨as, k v d as r u, u⟩
theorem Liv.all {U : Addr → Prop} (k : Liv U h h') : ∀ {vs : List Value} {ds : List PyData}, RepAll U h vs ds → RepAll U h' vs ds
  | [], [], _ => .nil
  | [], _ :: _, x => by have := x.length; simp at this
  | _ :: _, [], x => by have := x.length; simp at this
  | _ :: _, _ :: _, x => .cons (k.rep x.head) (k.all x.tail)
theorem Liv.refl {U : Addr → Prop} : Liv U h h := fun _ _ _ x _ => x
theorem Liv.trans {U : Addr → Prop} {h'' : Heap} (k : Liv U h h') (k' : Liv U h' h'') : Liv U h h'' := fun v d as x u => k' v d as (k v d as x u) u
theorem Liv.stays {U : Addr → Prop} (k : Stays h h') : Liv U h h' := fun _ _ _ x _ => reads_stays k x
theorem Liv.mono {U U' : Addr → Prop} (k : Liv U' h h') (m : ∀ a, U a → U' a) : Liv U h h' := fun v d as x u => k v d as x fun a z => m a (u a z)
theorem Dead.liv {U : Addr → Prop} {b : Addr} (D : Dead U h b) (hs : Heap.SameBut b h h') : Liv U h h' := fun v d as x u => by
  rcases D.2 with n | ⟨_, n⟩
  · exact reads_but hs D.1 x fun m => n (u b m)
  · exact reads_but hs D.1 x (reads_nocell n x)

/-- a value stored -/
theorem store_val (t : St C H0 P B env own X ρ s.heap) {x : Str} {v : Value} {d : PyData} (hx : own x = true) (hr : Rep (UU P env X) s.heap v d) :
    wpAny (model prog w) A (storeName env x v) (fun _ s' => BindPost (UU P env X) s (fun h' => St C H0 P B env own (dropX X x) (ρ.set x (.val d)) h' ∧ KeepO env s.heap h') s') NoE s := by
  refine store_raw t hx fun h' tk b hs hb ⟨ob, hob⟩ hcl hbk hns hmine hvx hvy => ?_
  have hD : Dead (UU P env X) s.heap b := by
    rcases hbk with rfl | ⟨u, hi⟩
    · obtain ⟨m, n⟩ := t.ns; exact ⟨noTup_dict n, .inl fun q => q.2.1 rfl⟩
    · exact ⟨noTup_cell hi, .inr ⟨u, hi⟩⟩
  have keep : ∀ a o, s.heap.get? a = some o → (∃ xs n, o.data = .seq xs n) ∨ B a = some o → h'.get? a = some o := fun a o e k => (hs.2 a fun q => by
    rcases k with ⟨xs, n, k⟩ | k
    · rcases hbk with rfl | ⟨u, o', ho', hd'⟩
      · obtain ⟨m, o', es, ep, ho', hd', _⟩ := t.ns
        rw [q, ho'] at e; cases e; rw [hd'] at k; cases k
      · rw [q, ho'] at e; cases e; rw [hd'] at k; cases k
    · rw [q, hb] at k; cases k).trans e
  refine ⟨h', tk, rfl, hD.liv hs, fun a o e z => keep a o e (.inl z), ?_, fun a o e n1 n2 => (hs.2 a fun q => by
    rcases hbk with z | ⟨u, o', ho', hd'⟩
    · exact n1 (q.trans z)
    · rw [q, ho'] at e; cases e; exact n2 _ hd').trans e⟩
  refine { fn := t.fn, gl := t.gl, bl := t.bl, h0 := t.h0, base := fun a o e => keep a o (t.base a o e) (.inr e), fresh := fun c e => t.fresh c ?_, ns := hns, bL := t.bL, mine := hmine, apart := t.apart, cells := t.cells, isCell := fun x c e => let ⟨v, i⟩ := t.isCell x c e; hcl c v i, xs := ?_, xp := fun p hp => t.xp p (mem_dropX.mp hp).1, xnd := ?_, xfn := ?_, vars := ?_ }
  · by_cases hcb : c = b
    · subst hcb; rw [e] at hob; cases hob
    · rw [← hs.2 c hcb]; exact e
  · intro p hp
    obtain ⟨a, b', vs, n, e⟩ := t.xs p (mem_dropX.mp hp).1
    exact ⟨a, b', vs, n, keep _ _ e (.inl ⟨_, _, rfl⟩)⟩
  · exact fun p hp q hq => t.xnd p (mem_dropX.mp hp).1 q (mem_dropX.mp hq).1
  · exact fun p hp q hq => t.xfn p (mem_dropX.mp hp).1 q (mem_dropX.mp hq).1
  · intro y ent e
    rcases look_set e with ⟨rfl, rfl⟩ | ⟨hy, e⟩
    · exact ⟨v, hvx, (hr.dead hD hs).mono fun _ u => uu_drop u⟩
    · obtain ⟨u, hu, he⟩ := t.vars y ent e
      refine ⟨u, hvy y u hy hu, ?_⟩
      cases ent with
      | val d' => exact (Rep.dead hD hs he).mono fun _ u => uu_drop u
      | own ds => obtain ⟨a, vs, n, e1, e2, e3, r⟩ := he; exact ⟨a, vs, n, e1, mem_dropX.mpr ⟨e2, hy⟩, keep _ _ e3 (.inl ⟨_, _, rfl⟩), (r.dead hD hs).mono fun _ u => uu_drop u⟩
      | slf ds => obtain ⟨y9, dx, hs9, tk9, a9, e1, e2, e3, r⟩ := he; exact ⟨y9, dx, hs9, tk9, a9, e1, e2, e3, (Rep.dead hD hs r).mono fun _ u => uu_drop u⟩
      | kwd => exact he
      | hdr ds =>
        obtain ⟨y', dx, hs', tk', a, vs, n, e1, e2, e3, e4, e5, r⟩ := he
        exact ⟨y', dx, hs', tk', a, vs, n, e1, e2, e3, mem_dropX.mpr ⟨e4, hy⟩, keep _ _ e5 (.inl ⟨_, _, rfl⟩), (r.dead hD hs).mono fun _ u => uu_drop u⟩
end
end Mine

namespace Mine
open PySem PySem.Calls PySem.Spec PyProof.Rows PySem.W PySem.SeqAt

section
variable {prog : Program} {w : World} {A : Around} {s : Shared} {env : Env} {C : Cls} {H0 : Heap} {P : Addr → Prop} {B : Addr → Option Obj} {own : Str → Bool} {X : List (Str × Addr)} {ρ : Rho} {h h' : Heap} {k : Nat}

theorem draw_list {E : Value → Shared → Prop} {it t : Addr} {items : Array Value} (hne : t ≠ it) : ∀ (n i : Nat) (s : Shared) (Q : List Value → Shared → Prop), s.heap.IsListIter it t i → s.heap.IsList t items → i + n ≤ items.size →
    (∀ h', h'.IsListIter it t (i + n) → Heap.SameBut it s.heap h' → Q ((items.toList.drop i).take n) { s with heap := h' }) → wpAny (model prog w) A (draw (.ref it) n) Q E s
  | 0, i, s, Q, hit, _, _, hQ => by
    show wpAny _ _ (pure []) Q E s
    exact wpAny_pure (by simpa using hQ s.heap hit (Heap.SameBut.refl ..))
  | n + 1, i, s, Q, hit, ht, hle, hQ => by
    have hlt : i < items.size := by omega
    show wpAny _ _ (pyNext (.ref it) >>= _) Q E s
    refine wpAny_bind (wpAny_pyNext_list_item hit ht (x := items[i]) (by simp [hlt]) fun h₁ hit₁ hs₁ => ?_)
    refine wpAny_bind (wpAny_holding (draw_list hne n (i + 1) _ _ hit₁ (ht.extBut hs₁.extBut hne) (by omega) fun h₂ hit₂ hs₂ => wpAny_pure ?_))
    have hd : items.toList.drop i = items[i] :: items.toList.drop (i + 1) := by simp [List.drop_eq_getElem_cons, hlt]
    have := hQ h₂ (by rw [show i + (n + 1) = i + 1 + n by omega]; exact hit₂) (hs₁.trans hs₂)
    rw [hd, List.take_succ_cons] at this
    exact this

noncomputable def dropXs (X : List (Str × Addr)) (b : List (Str × PyData)) : List (Str × Addr) := b.foldl (fun X p => dropX X p.1) X
theorem uu_drops : ∀ (b : List (Str × PyData)) {X : List (Str × Addr)} {a : Addr}, UU P env X a → UU P env (dropXs X b) a
  | [], _, _, u => u
  | _ :: b, _, _, u => uu_drops b (uu_drop u)

theorem inOrder_ok : ∀ (es : List Expr) (xs : List Str) (ds : List PyData) (vs : List Value) (s : Shared) (X : List (Str × Addr)) (ρ : Rho), es.mapM nameOfE = some xs → xs.length = ds.length → (xs.zip ds).all (fun p => own p.1) = true →
    St C H0 P B env own X ρ s.heap → RepAll (UU P env X) s.heap vs ds →
    wpAny (model prog w) A (assignInOrder ((assignEach es env).map (·.2)) vs) (fun _ s' => BindPost (UU P env X) s (fun h' => St C H0 P B env own (dropXs X (xs.zip ds)) (ρ.sets (xs.zip ds)) h') s') NoE s
  | [], xs, ds, vs, s, X, ρ, e, hl, _, t, r => by
    simp at e
    subst e
    cases ds with
    | nil =>
      have := r.length
      simp at this
      subst this
      exact wpAny_pure ⟨s.heap, s.toks, rfl, Liv.refl, KeepL.stays (Stays.refl _), t⟩
    | cons => simp at hl
  | e :: es, xs, ds, vs, s, X, ρ, q, hl, ho, t, r => by
    rw [List.mapM_cons] at q
    obtain ⟨x, hx, q⟩ := Option.bind_eq_some_iff.mp q
    obtain ⟨xs', hxs, q⟩ := Option.bind_eq_some_iff.mp q
    cases q
    cases ds with
    | nil => simp at hl
    | cons d ds =>
      cases vs with
      | nil => have := r.length; simp at this
      | cons v vs =>
        obtain ⟨p, rfl⟩ := nameOfE_eq hx
        simp only [List.zip_cons_cons, List.all_cons, Bool.and_eq_true] at ho
        show wpAny _ _ (assignInOrder (assign (.Name x p) env :: (assignEach es env).map (·.2)) (v :: vs)) _ _ _
        refine wpAny_bind (wpAny_holding (wpAny_assign_Name ?_))
        refine wpAny_mono (store_val t ho.1 r.head) (fun _ s' zP => ?_) fun _ _ z => z
        obtain ⟨h', tk, e', lv, kl, t', _⟩ := zP
        subst e'
        refine wpAny_mono (inOrder_ok es xs' ds vs { s with heap := h', toks := tk } _ _ hxs (by simpa using hl) ho.2 t' ((lv.all r.tail).mono fun _ u => uu_drop u)) (fun _ s' zP => ?_) fun _ _ z => z
        obtain ⟨h'', tk', e', lv', kl', t''⟩ := zP
        exact ⟨h'', tk', e', lv.trans (lv'.mono fun _ u => uu_drop u), kl.trans kl', t''⟩

theorem assignEach_len {es : List Expr} {xs : List Str} (q : es.mapM nameOfE = some xs) : (assignEach es env).length = xs.length ∧ (assignEach es env).findIdx? (·.1) = none := by
  induction es generalizing xs with
  | nil => simp at q; subst q; exact ⟨rfl, rfl⟩
  | cons e es ih =>
    rw [List.mapM_cons] at q
    obtain ⟨x, hx, q⟩ := Option.bind_eq_some_iff.mp q
    obtain ⟨xs', hxs, q⟩ := Option.bind_eq_some_iff.mp q
    cases q
    obtain ⟨h1, h2⟩ := ih hxs
    obtain ⟨p, rfl⟩ := nameOfE_eq hx
    have e1 : assignEach (.Name x p :: es) env = (false, assign (.Name x p) env) :: assignEach es env := rfl
    rw [e1]
    refine ⟨by simp [h1], ?_⟩
    rw [List.findIdx?_cons]
    simp [h2]

theorem stays_ext {h h' : Heap} (e : Heap.ExtBut h.objs.size h h') : Stays h h' := fun a o q => e a o (Nat.ne_of_lt (Heap.lt_size q)) q

theorem bind_ok (t : St C H0 P B env own X ρ s.heap) (hh : A.handled = none) {tg : Expr} {d : PyData} {b : List (Str × PyData)} {v : Value} (hb : bindD tg d = some b) (ho : b.all (fun p => own p.1) = true) (hr : Rep (UU P env X) s.heap v d) :
    wpAny (model prog w) A (assign tg env v) (fun _ s' => BindPost (UU P env X) s (fun h' => St C H0 P B env own (dropXs X b) (ρ.sets b) h') s') NoE s := by
  cases tg with
  | Name x p =>
    cases hb
    simp only [List.all_cons, List.all_nil, Bool.and_true] at ho
    exact wpAny_assign_Name (wpAny_mono (store_val t ho hr) (fun _ s' ⟨h', tk, e', lv, kl, t', _⟩ => ⟨h', tk, e', lv, kl, t'⟩) fun _ _ z => z)
  | Tuple es c p =>
    cases d with
    | tuple ds =>
      obtain ⟨xs, hx, hb⟩ := Option.bind_eq_some_iff.mp hb
      replace hb := iteS hb
      obtain ⟨hl, hb⟩ := hb
      cases hb
      obtain ⟨a, vs, rfl, ht, rr⟩ := hr.tupleInv
      obtain ⟨h1, h2⟩ := assignEach_len (env := env) hx
      refine wpAny_assign_Tuple hh ht (by rw [h1, List.size_toArray, rr.length]; exact hl) h2 fun h' he => ?_
      have st := stays_ext he
      refine wpAny_mono (inOrder_ok _ xs _ vs { s with heap := h' } X ρ hx hl ho (t.stays st) (rr.stays st)) (fun _ s' ⟨h'', tk', e', lv', kl', t''⟩ => ⟨h'', tk', e', (Liv.stays st).trans lv', (KeepL.stays st).trans kl', t''⟩) fun _ _ z => z
    | _ => exact noSome hb
  | _ => exact noSome hb
end
end Mine

namespace Mine
open PySem PySem.Calls PySem.Spec PyProof.Rows PySem.W PySem.SeqAt

/-- the addresses that a frame's statements may change -/
noncomputable def Mut (env : Env) (own : Str → Bool) (X : List (Str × Addr)) (a : Addr) : Prop :=
  a = env.locals ∨ (∃ x, own x = true ∧ env.kindOf x = some .cell ∧ env.cells.lookup x = some a) ∨ ∃ p ∈ X, p.2 = a
open Classical in
noncomputable def frz (env : Env) (own : Str → Bool) (X : List (Str × Addr)) (h : Heap) : Addr → Option Obj := fun a => if Mut env own X a then none else h.get? a

section
variable {prog : Program} {w : World} {A : Around} {s : Shared} {env : Env} {C : Cls} {H0 : Heap} {P : Addr → Prop} {B B' : Addr → Option Obj} {own : Str → Bool} {X : List (Str × Addr)} {ρ : Rho} {h h' : Heap} {k : Nat}

theorem frz_some {a : Addr} {o : Obj} (e : frz env own X h a = some o) : h.get? a = some o ∧ ¬ Mut env own X a := by
  unfold frz at e
  split at e
  · cases e
  · exact ⟨e, by assumption⟩
theorem frz_none {a : Addr} (e : frz env own X h a = none) : Mut env own X a ∨ h.get? a = none := by
  unfold frz at e
  split at e
  · exact .inl (by assumption)
  · exact .inr e
theorem frz_mut {a : Addr} (m : Mut env own X a) : frz env own X h a = none := by
  unfold frz; rw [if_pos m]
theorem frz_of {a : Addr} {o : Obj} (e : h.get? a = some o) (m : ¬ Mut env own X a) : frz env own X h a = some o := by
  unfold frz; rw [if_neg m]; exact e

theorem St.notMut (t : St C H0 P B env own X ρ h) {a : Addr} {o : Obj} (e : B a = some o) : ¬ Mut env own X a := by
  rintro (rfl | ⟨x, hx, hk, hc⟩ | ⟨p, hp, rfl⟩)
  · rw [t.bL] at e; cases e
  · rcases t.mine x hx with q | ⟨_, c, v, hc', _, hb⟩
    · rw [hk] at q; cases q
    · rw [hc] at hc'; cases hc'; rw [hb] at e; cases e
  · rw [(t.xs p hp).1] at e; cases e

/-- the base may grow to all that is not the frame's to change -/
theorem St.inflate (t : St C H0 P B env own X ρ h) : (∀ a o, B a = some o → frz env own X h a = some o) ∧ St C H0 P (frz env own X h) env own X ρ h := by
  have sub : ∀ a o, B a = some o → frz env own X h a = some o := fun a o e => frz_of (t.base a o e) (t.notMut e)
  refine ⟨sub, { fn := t.fn, gl := t.gl, bl := t.bl, h0 := fun a o e => sub a o (t.h0 a o e), base := fun a o e => (frz_some e).1, fresh := t.fresh, ns := t.ns, bL := frz_mut (.inl rfl), mine := ?_, apart := ?_, cells := t.cells, isCell := t.isCell, xs := ?_, xp := t.xp, xnd := t.xnd, xfn := t.xfn, vars := ?_ }⟩
  · intro x hx
    rcases t.mine x hx with q | ⟨hk, c, v, hc, hi, hb⟩
    · exact .inl q
    · exact .inr ⟨hk, c, v, hc, hi, frz_mut (.inr (.inl ⟨x, hx, hk, hc⟩))⟩
  · intro x y c hx hy hb
    cases q : B c with
    | none => exact t.apart x y c hx hy q
    | some o => rw [sub c o q] at hb; cases hb
  · intro p hp
    obtain ⟨_, b, r⟩ := t.xs p hp
    exact ⟨frz_mut (.inr (.inr ⟨p, hp, rfl⟩)), b, r⟩
  · intro x ent e
    obtain ⟨v, hv, he⟩ := t.vars x ent e
    refine ⟨v, hv, ?_⟩
    cases ent with
    | val d => exact he
    | own ds => exact he
    | slf ds => obtain ⟨y9, dx, hs9, tk9, a9, e1, e2, e3, r⟩ := he; exact ⟨y9, dx, hs9, tk9, a9, e1, sub _ _ e2, sub _ _ e3, r⟩
    | kwd => obtain ⟨d9, e1, e2, e3⟩ := he; exact ⟨d9, e1, sub _ _ e2, e3⟩
    | hdr ds => obtain ⟨y, dx, hs, tk, a, vs, n, e1, e2, e3, e4, e5, r⟩ := he; exact ⟨y, dx, hs, tk, a, vs, n, e1, sub _ _ e2, sub _ _ e3, e4, e5, r⟩

/-- one address given back by the base -/
noncomputable def hideB (B : Addr → Option Obj) (i : Addr) : Addr → Option Obj := fun a => if a = i then none else B a
theorem St.hide (t : St C H0 P B env own X ρ h) {I : Addr} {oI : Obj} {vs : Array Value} (hI : h.get? I = some oI) (hd : oI.data = .fields vs) (hn : H0.get? I = none) : St C H0 P (hideB B I) env own X ρ h := by
  have up : ∀ a o, hideB B I a = some o → B a = some o := fun a o e => by
    unfold hideB at e; split at e
    · cases e
    · exact e
  have dn : ∀ a o, B a = some o → a ≠ I → hideB B I a = some o := fun a o e n => by unfold hideB; rw [if_neg n]; exact e
  have no : ∀ a, B a = none → hideB B I a = none := fun a e => by unfold hideB; split <;> first | rfl | exact e
  refine { fn := t.fn, gl := t.gl, bl := t.bl, h0 := fun a o e => dn a o (t.h0 a o e) (fun q => by rw [q, hn] at e; cases e), base := fun a o e => t.base a o (up a o e), fresh := t.fresh, ns := t.ns, bL := no _ t.bL, mine := ?_, apart := ?_, cells := t.cells, isCell := t.isCell, xs := ?_, xp := t.xp, xnd := t.xnd, xfn := t.xfn, vars := ?_ }
  · intro x hx
    exact (t.mine x hx).imp id fun ⟨hk, c, v, hc, hi, hb⟩ => ⟨hk, c, v, hc, hi, no _ hb⟩
  · intro x y c hx hy hb
    by_cases hc : c = I
    · subst hc
      exfalso
      obtain ⟨v, o, ho, hd'⟩ := t.isCell x c hx
      rw [hI] at ho; cases ho; rw [hd] at hd'; cases hd'
    · exact t.apart x y c hx hy (by unfold hideB at hb; rw [if_neg hc] at hb; exact hb)
  · intro p hp
    obtain ⟨a, b, r⟩ := t.xs p hp
    exact ⟨no _ a, b, r⟩
  · intro x ent e
    obtain ⟨v, hv, he⟩ := t.vars x ent e
    refine ⟨v, hv, ?_⟩
    cases ent with
    | val d => exact he
    | own ds => exact he
    | slf ds => obtain ⟨y9, dx, hs9, tk9, a9, e1, e2, e3, r⟩ := he; exact ⟨y9, dx, hs9, tk9, a9, e1, dn _ _ e2 (fun q => by have := t.base _ _ e2; rw [q, hI] at this; cases this; cases hd), dn _ _ e3 (fun q => by have := t.base _ _ e3; rw [q, hI] at this; cases this; cases hd), r⟩
    | kwd => obtain ⟨d9, e1, e2, e3⟩ := he; exact ⟨d9, e1, dn _ _ e2 (fun q => by have := t.base _ _ e2; rw [q, hI] at this; cases this; cases hd), e3⟩
    | hdr ds =>
      obtain ⟨y, dx, hs, tk, a, vs', n, e1, e2, e3, e4, e5, r⟩ := he
      refine ⟨y, dx, hs, tk, a, vs', n, e1, dn _ _ e2 fun q => ?_, dn _ _ e3 fun q => ?_, e4, e5, r⟩
      · have := t.base _ _ e2; rw [q, hI] at this; cases this; cases hd
      · have := t.base _ _ e3; rw [q, hI] at this; cases this; cases hd

theorem hide_sub {I : Addr} : ∀ a o, hideB B I a = some o → B a = some o := fun a o e => by
  unfold hideB at e; split at e
  · cases e
  · exact e

/-- a place that is no data, no frame's: it may change -/
theorem St.ext (t : St C H0 P B env own X ρ h) {I : Addr} {oI : Obj} {vs : Array Value} (hI : h.get? I = some oI) (hd : oI.data = .fields vs) (hb : B I = none) (hx : Heap.ExtBut I h h') (hn : P I) :
    Liv (UU P env X) h h' ∧ St C H0 P B env own X ρ h' := by
  have ne : ∀ a o, h.get? a = some o → (∀ vs, o.data ≠ .fields vs) → a ≠ I := fun a o e n q => by rw [q, hI] at e; cases e; exact n _ hd
  have lv : ∀ {U : Addr → Prop}, Liv U h h' := by
    intro U v d as r _
    refine (reads_tr2 (G := fun _ => True) fun a o e dt _ => hx a o (ne a o e fun vs q => ?_) e).1 _ _ _ r fun _ _ => trivial
    rcases dt with ⟨_, _, z⟩ | ⟨_, _, z⟩ <;> rw [q] at z <;> cases z
  refine ⟨lv, { fn := t.fn, gl := t.gl, bl := t.bl, h0 := t.h0, base := fun a o e => hx a o (fun q => by rw [q, hb] at e; cases e) (t.base a o e), fresh := ?_, ns := ?_, bL := t.bL, mine := ?_, apart := t.apart, cells := t.cells, isCell := ?_, xs := ?_, xp := t.xp, xnd := t.xnd, xfn := t.xfn, vars := ?_ }⟩
  · intro b e
    by_cases hbI : b = I
    · subst hbI; exact hn
    · refine t.fresh b ?_
      cases q : h.get? b with
      | none => rfl
      | some o => rw [hx b o hbI q] at e; cases e
  · obtain ⟨m, o, es, ep, ho, hd', r⟩ := t.ns
    exact ⟨m, o, es, ep, hx _ _ (ne _ _ ho (fun _ q => by rw [hd'] at q; cases q)) ho, hd', r⟩
  · intro x hx'
    exact (t.mine x hx').imp id fun ⟨hk, c, v, hc, hi, hb⟩ => ⟨hk, c, v, hc, St.ext.cellx (hI := hI) (hd := hd) (hx := hx) hi, hb⟩
  · intro x c e
    obtain ⟨v, i⟩ := t.isCell x c e
    exact ⟨v, St.ext.cellx (hI := hI) (hd := hd) (hx := hx) i⟩
  · intro p hp
    obtain ⟨a, b, vs', n, e⟩ := t.xs p hp
    exact ⟨a, b, vs', n, hx _ _ (ne _ _ e (fun _ q => by cases q)) e⟩
  · intro x ent e
    obtain ⟨v, hv, he⟩ := t.vars x ent e
    refine ⟨v, ?_, ?_⟩
    · rcases hv with ⟨hk, m, ⟨o, es, ep, ho, hd', r⟩, e⟩ | ⟨hk, c, e, i⟩
      · exact .inl ⟨hk, m, ⟨o, es, ep, hx _ _ (ne _ _ ho (fun _ q => by rw [hd'] at q; cases q)) ho, hd', r⟩, e⟩
      · exact .inr ⟨hk, c, e, St.ext.cellx (hI := hI) (hd := hd) (hx := hx) i⟩
    · cases ent with
      | val d => exact lv.rep he
      | own ds => obtain ⟨a, vs', n, e1, e2, e3, r⟩ := he; exact ⟨a, vs', n, e1, e2, hx _ _ (ne _ _ e3 (fun _ q => by cases q)) e3, lv.all r⟩
      | slf ds => obtain ⟨y9, dx, hs9, tk9, a9, e1, e2, e3, r⟩ := he; exact ⟨y9, dx, hs9, tk9, a9, e1, e2, e3, lv.rep r⟩
      | kwd => exact he
      | hdr ds => obtain ⟨y, dx, hs, tk, a, vs', n, e1, e2, e3, e4, e5, r⟩ := he; exact ⟨y, dx, hs, tk, a, vs', n, e1, e2, e3, e4, hx _ _ (ne _ _ e5 (fun _ q => by cases q)) e5, lv.all r⟩
where
  cellx {h h' : Heap} {I : Addr} {oI : Obj} {vs : Array Value} {hI : h.get? I = some oI} {hd : oI.data = .fields vs} {hx : Heap.ExtBut I h h'} {c : Addr} {v : Option Value} (i : h.IsCell c v) : h'.IsCell c v := by
    obtain ⟨o, ho, hd'⟩ := i
    exact ⟨o, hx _ _ (fun q => by rw [q, hI] at ho; cases ho; rw [hd] at hd'; cases hd') ho, hd'⟩
end
end Mine

namespace Mine
open PySem PySem.Calls PySem.Spec PyProof.Rows PySem.W PySem.SeqAt

section
variable {prog : Program} {w : World} {A : Around} {s : Shared} {env : Env} {C : Cls} {H0 : Heap} {P : Addr → Prop} {B B' : Addr → Option Obj} {own : Str → Bool} {X X' : List (Str × Addr)} {ρ ρ' : Rho} {h h' : Heap} {k : Nat}

theorem St.seqNotMut (t : St C H0 P B env own X ρ h) {a : Addr} {o : Obj} (e : h.get? a = some o) (hd : (∃ vs n, o.data = .seq vs n) ∨ ∃ vs n, o.data = .dict vs n) (hu : UU P env X a ∨ o.cls = .type "tuple" ∧ ∃ vs n, o.data = .seq vs n) : ¬ Mut env own X a := by
  rintro (rfl | ⟨x, hx, hk, hc⟩ | ⟨p, hp, rfl⟩)
  · rcases hu with hu | ⟨_, vs, n, hu⟩
    · exact hu.2.1 rfl
    · obtain ⟨m, o', es, ep, ho, hd', _⟩ := t.ns
      rw [e] at ho; cases ho; rw [hu] at hd'; cases hd'
  · obtain ⟨v, o', ho, hd'⟩ := t.isCell x a hc
    rw [e] at ho; cases ho
    rcases hd with ⟨_, _, q⟩ | ⟨_, _, q⟩ <;> (rw [q] at hd'; cases hd')
  · rcases hu with hu | ⟨hu, _⟩
    · exact hu.2.2 p hp rfl
    · obtain ⟨_, _, vs, n, ho⟩ := t.xs p hp
      rw [e] at ho; cases ho
      exact absurd (show Value.type "list" = Value.type "tuple" from hu) (by decide)

theorem St.readsAll_frz (t : St C H0 P B env own X ρ h) (keep : ∀ a o, frz env own X h a = some o → h'.get? a = some o) {vs ds as} (r : ReadsAll h vs ds as) (u : ∀ a ∈ as, UU P env X a) : ReadsAll h' vs ds as :=
  (reads_tr2 fun a o e d g => keep a o (frz_of e (t.seqNotMut e d g))).2 _ _ _ r u

/-- data is as it was behind statements of the frame -/
theorem St.repAll_frz (t : St C H0 P B env own X ρ h) (t' : St C H0 P B' env own X' ρ' h') (sub : ∀ a o, frz env own X h a = some o → B' a = some o) {vs : List Value} {ds : List PyData} (r : RepAll (UU P env X) h vs ds) : RepAll (UU P env X') h' vs ds := by
  obtain ⟨as, r, u⟩ := r
  refine ⟨as, t.readsAll_frz (fun a o e => t'.base a o (sub a o e)) r u, fun a m => ⟨(u a m).1, (u a m).2.1, fun p hp q => ?_⟩⟩
  have hb := (t'.xs p hp).1
  obtain ⟨o, ho⟩ := repAll_new.readsAll_alloc r a m
  have hnm : ¬ Mut env own X a := by
    rintro (z | ⟨x, hx, hk, hc⟩ | ⟨p, hp, z⟩)
    · exact (u a m).2.1 z
    · obtain ⟨v, hi⟩ := t.isCell x a hc
      exact readsAll_nocell hi r m
    · exact (u a m).2.2 p hp z
  rw [q, sub a o (frz_of ho hnm)] at hb
  cases hb

/-- what a loop walks: a list's values, or ints -/
noncomputable def ValsAt (K : Option (List Value)) (items : List PyData) (U : Addr → Prop) (h : Heap) : Prop :=
  match K with
  | some vs => RepAll U h vs items
  | none => ∀ d ∈ items, ∃ i, d = PyData.int i

noncomputable def lotNames : List String := ["enumerate", "zip", "dict_itemiterator", "dict_reverseitemiterator", "odict_iterator", "itertools.zip_longest", "itertools.pairwise"]
structure Itr (prog : Program) (w : World) (A : Around) (I : Addr) (fp : List Addr) (items : List PyData) (K : Option (List Value)) (Pv : Nat → Value → Prop) (Sv : Nat → Heap → Prop) : Prop where
  W : Walks prog w A I fp [I] items.length Pv Sv
  hI : I ∈ fp
  flds : ∀ i h, Sv i h → ∃ o vs T, h.get? I = some o ∧ o.data = .fields vs ∧ o.cls = .type T ∧ lotNames.contains T = false
  seqs : ∀ i h, Sv i h → ∀ b ∈ fp, b ≠ I → ∃ o vs n, h.get? b = some o ∧ o.data = .seq vs n
  vals : ∀ i v, i < items.length → Pv i v → match K with | some vs => vs[i]? = some v | none => ∃ n t, v = .int n t ∧ items[i]? = some (.int n)

theorem Itr.val {I : Addr} {fp : List Addr} {items : List PyData} {K : Option (List Value)} {Pv : Nat → Value → Prop} {Sv : Nat → Heap → Prop} (it : Itr prog w A I fp items K Pv Sv) {U : Addr → Prop} {i : Nat} {v : Value} (hi : i < items.length) (p : Pv i v) (hv : ValsAt K items U h) :
    ∃ d, items[i]? = some d ∧ Rep U h v d := by
  have := it.vals i v hi p
  cases K with
  | some vs => exact RepAll.get' hv this
  | none => obtain ⟨n, t, rfl, e⟩ := this; exact ⟨_, e, .int _ _⟩

/-- the source of a loop or of a comprehension, walked -/
inductive IterPost (prog : Program) (w : World) (A : Around) (U : Addr → Prop) (s : Shared) (items : List PyData) (it : Value) (s' : Shared) : Prop
  | mk (h' : Heap) (tk : Nat) (I : Addr) (fp : List Addr) (K : Option (List Value)) (Pv : Nat → Value → Prop) (Sv : Nat → Heap → Prop) (e : s' = { s with heap := h', toks := tk }) (st : Stays s.heap h') (ei : it = .ref I) (i : Itr prog w A I fp items K Pv Sv) (s0 : Sv 0 h') (vl : ValsAt K items U h') (hn : s.heap.get? I = none) (hU : ∀ b ∈ fp, b ≠ I → U b)

theorem foldedSet_id {e : Expr} (env : Env) (x : Value) (h : ∀ a b c, e ≠ .Set a b c) : foldedSetIterable e env x = pure x := by
  cases e <;> first | rfl | exact absurd rfl (h _ _ _)

theorem iter_list {U : Addr → Prop} {ds : List PyData} {v : Value} (hh : A.handled = none) (r : Rep U s.heap v (.list ds)) : wpAny (model prog w) A (pyIter v) (IterPost prog w A U s ds) NoE s := by
  obtain ⟨a, vs, rfl, hl, rr, ua⟩ := r.listInv
  have hne : a ≠ s.heap.objs.size := by obtain ⟨o, ho, _⟩ := hl; exact Nat.ne_of_lt (Heap.lt_size ho)
  refine wpAny_pyIter_list hl ⟨_, s.toks, _, [s.heap.objs.size, a], some vs, (fun i v => vs.toArray[i]? = some v), (fun i h => h.IsListIter s.heap.objs.size a i ∧ h.IsList a vs.toArray), rfl, stays_push _ _, rfl, ?_, ?_, rr.stays (stays_push _ _), new_none _, ?_⟩
  · have W := Walks.list (prog := prog) (w := w) hh s.heap.objs.size a hne vs.toArray
    have hsize : vs.toArray.size = ds.length := by rw [List.size_toArray, rr.length]
    rw [hsize] at W
    refine ⟨W, by simp, fun i h ⟨⟨o, ho, hc, hd⟩, _⟩ => ⟨o, _, _, ho, hd, hc, by decide +kernel⟩, fun i h ⟨_, o, ho, _, n, hd⟩ b hb hbI => ?_, fun i v _ e => by simpa using e⟩
    simp at hb
    rcases hb with rfl | rfl
    · exact absurd rfl hbI
    · exact ⟨o, _, n, ho, hd⟩
  · exact ⟨⟨_, Heap.get?_push_size _ rfl, rfl, rfl⟩, hl.push _⟩
  · intro b hb hbI
    simp at hb
    rcases hb with rfl | rfl
    · exact absurd rfl hbI
    · exact ua

theorem iterPost_from {U : Addr → Prop} {h' : Heap} {tk : Nat} {items : List PyData} {v : Value} {s' : Shared} (k : Stays s.heap h') (x : IterPost prog w A U { s with heap := h', toks := tk } items v s') : IterPost prog w A U s items v s' := by
  obtain ⟨h'', tk', I, fp, K, Pv, Sv, e, st, ei, it, s0, vl, hn, hf⟩ := x
  exact ⟨h'', tk', I, fp, K, Pv, Sv, e, k.trans st, ei, it, s0, vl, none_of_stays k hn, hf⟩

theorem iter_rangeAt {U : Addr → Prop} {k : Int} {r : Addr} {t u v : Tok} (hh : A.handled = none) (h0 : 0 ≤ k) (h1 : k ≤ top) (hr : IsRange s.heap r 0 k 1 t u v) :
    wpAny (model prog w) A (pyIter (.ref r)) (IterPost prog w A U s ((List.range k.toNat).map fun (i : Nat) => PyData.int (i : Int))) NoE s := by
  have hsz : Builtin.Range.rangeSize 0 k 1 = (k.toNat : Int) := by rw [rangeSize_one]; split <;> omega
  refine wpAny_pyIter_range hr (small_one (by decide) (by decide) (by omega) (by unfold top at h1; omega)) ?_
  have W := Walks.range (prog := prog) (w := w) hh s.heap.objs.size 0 1 k.toNat
  refine ⟨_, s.toks, s.heap.objs.size, [s.heap.objs.size], none, (fun i v => ∃ t, v = .int (0 + (i : Nat) * 1) t), (fun i h => IsRangeIter h s.heap.objs.size (0 + (i : Nat) * 1) ((k.toNat : Int) - (i : Nat)) 1), rfl, stays_push _ _, rfl, ?_, ?_, ?_, new_none _, ?_⟩
  · have hlen : ((List.range k.toNat).map fun (i : Nat) => PyData.int (i : Int)).length = k.toNat := by simp
    refine ⟨by rw [hlen]; exact W, by simp, fun i h e => ⟨_, _, _, e, rfl, rfl, by decide +kernel⟩, fun i h _ b hb hbI => absurd (by simpa using hb) hbI, fun i v hi e => ?_⟩
    obtain ⟨t', rfl⟩ := e
    rw [hlen] at hi
    exact ⟨_, t', rfl, by simp [hi]⟩
  · have e : ((k.toNat : Int) - ((0 : Nat) : Int)) = Builtin.Range.rangeSize 0 k 1 := by rw [hsz]; simp
    show Heap.get? _ _ = _
    rw [e]
    exact Heap.get?_push_size _ rfl
  · intro d hd
    obtain ⟨i, _, rfl⟩ := List.mem_map.mp hd
    exact ⟨_, rfl⟩
  · intro b hb hbI
    exact absurd (by simpa using hb) hbI

theorem iter_range {U : Addr → Prop} {k : Int} {t : Tok} (hh : A.handled = none) (h0 : 0 ≤ k) (h1 : k ≤ top) :
    wpAny (model prog w) A (call (.type "range") [.int k t]) (fun x s₁ => wpAny (model prog w) A (pyIter x) (IterPost prog w A U s ((List.range k.toNat).map fun (i : Nat) => PyData.int (i : Int))) NoE s₁) NoE s := by
  refine call_range_1 ?_
  refine wpAny_mono (iter_rangeAt (s := { s with heap := s.heap.push _, toks := s.toks + 1 + 1 }) hh h0 h1 (IsRange.new ..)) (fun _ _ x => iterPost_from (stays_push _ _) x) fun _ _ x => x
end
end Mine

namespace Mine
open PySem PySem.Calls PySem.Spec PyProof.Rows PySem.W PySem.SeqAt

section
variable {prog : Program} {w : World} {A : Around} {s : Shared} {env : Env} {C : Cls} {H0 : Heap} {P U : Addr → Prop} {B B' : Addr → Option Obj} {own : Str → Bool} {X X' : List (Str × Addr)} {ρ ρ' : Rho} {h h' : Heap} {k : Nat} {mg mb : Str → Option Value}
variable {r : Md → Scope → Rho → Expr → Option PyData}

/-- an owned list changes; names that own others see nothing of it -/
theorem St.mutX (t : St C H0 P B env own X ρ h) {x : Str} {a : Addr} (hx : (x, a) ∈ X) (hs : Heap.SameBut a h h') {vs' : List Value} {n' : Nat} (ho : h'.get? a = some (lst vs' n')) :
    Liv (UU P env X) h h' ∧ St C H0 P B env own X (ρ.filter fun p => !(p.1 == x)) h' := by
  obtain ⟨hb, hL, vs, n, ha⟩ := t.xs _ hx
  have hD : Dead (UU P env X) h a := ⟨noTup_list ha, .inl fun q => q.2.2 _ hx rfl⟩
  have ne : ∀ c o, h.get? c = some o → (∀ vs n, o.data ≠ .seq vs n) → c ≠ a := fun c o e z q => by rw [q, ha] at e; cases e; exact z _ _ rfl
  have cell : ∀ c u, h.IsCell c u → h'.IsCell c u := fun c u i => i.sameBut hs (by obtain ⟨o, ho, hd⟩ := i; exact ne c o ho fun _ _ q => by rw [hd] at q; cases q)
  have nsk : ∀ m, h.Ns env.locals m → h'.Ns env.locals m := fun m i => i.sameBut hs (Ne.symm hL)
  refine ⟨hD.liv hs, { fn := t.fn, gl := t.gl, bl := t.bl, h0 := t.h0, base := fun c o e => (hs.2 c fun q => by rw [q, hb] at e; cases e).trans (t.base c o e), fresh := ?_, ns := let ⟨m, q⟩ := t.ns; ⟨m, nsk m q⟩, bL := t.bL, mine := ?_, apart := t.apart, cells := t.cells, isCell := fun y c e => let ⟨v, i⟩ := t.isCell y c e; ⟨v, cell _ _ i⟩, xs := ?_, xp := t.xp, xnd := t.xnd, xfn := t.xfn, vars := ?_ }⟩
  · intro b e
    by_cases q : b = a
    · subst q; rw [e] at ho; cases ho
    · exact t.fresh b (by rw [← hs.2 b q]; exact e)
  · exact fun y hy => (t.mine y hy).imp id fun ⟨hk, c, v, hc, hi, hb⟩ => ⟨hk, c, v, hc, cell _ _ hi, hb⟩
  · intro p hp
    obtain ⟨c, d, vs2, n2, e⟩ := t.xs p hp
    by_cases q : p.2 = a
    · exact ⟨c, d, vs', n', q ▸ ho⟩
    · exact ⟨c, d, vs2, n2, (hs.2 _ q).trans e⟩
  · intro y ent e
    have hy : y ≠ x ∧ look env.scope ρ y = some ent := by
      unfold look at e ⊢
      split at e
      · rename_i c
        refine ⟨fun q => ?_, ?_⟩
        · subst q; exact lookup_filter_ne e
        · rw [if_pos c]
          exact lookup_filter e
      · cases e
    obtain ⟨v, hv, he⟩ := t.vars y ent hy.2
    refine ⟨v, ?_, ?_⟩
    · rcases hv with ⟨hk, m, q, e⟩ | ⟨hk, c, e, i⟩
      · exact .inl ⟨hk, m, nsk m q, e⟩
      · exact .inr ⟨hk, c, e, cell _ _ i⟩
    · have hne : ∀ b, (y, b) ∈ X → b ≠ a := fun b hb q => hy.1 (t.xnd _ hb _ hx q)
      cases ent with
      | val d => exact (hD.liv hs).rep he
      | own ds => obtain ⟨b, vs2, n2, e1, e2, e3, rr⟩ := he; exact ⟨b, vs2, n2, e1, e2, (hs.2 _ (hne b e2)).trans e3, (hD.liv hs).all rr⟩
      | slf ds => obtain ⟨y9, dx, hs9, tk9, a9, e1, e2, e3, r⟩ := he; exact ⟨y9, dx, hs9, tk9, a9, e1, e2, e3, (hD.liv hs).rep r⟩
      | kwd => exact he
      | hdr ds => obtain ⟨z, dx, hh, tk, b, vs2, n2, e1, e2, e3, e4, e5, rr⟩ := he; exact ⟨z, dx, hh, tk, b, vs2, n2, e1, e2, e3, e4, (hs.2 _ (hne b e4)).trans e5, (hD.liv hs).all rr⟩
where
  lookup_filter_ne {ρ : Rho} {y : Str} {ent : Ent} (e : (ρ.filter fun p => !(p.1 == y)).lookup y = some ent) : False := by
    have := mem_of_lookup e
    have := (List.mem_filter.mp this).2
    simp at this
  lookup_filter {ρ : Rho} {x y : Str} {ent : Ent} (e : (ρ.filter fun p => !(p.1 == x)).lookup y = some ent) : ρ.lookup y = some ent := by
    induction ρ with
    | nil => simp at e
    | cons p r ih =>
      obtain ⟨z, ez⟩ := p
      rw [List.filter_cons] at e
      by_cases hz : z = x
      · subst hz
        simp only [beq_self_eq_true, Bool.not_true, Bool.false_eq_true, if_false] at e
        rw [List.lookup_cons]
        cases hyz : y == z with
        | true => exact absurd (by rw [← beq_iff_eq.mp hyz] at e; exact e) (fun q => lookup_filter_ne q)
        | false => exact ih e
      · have hz' : (z == x) = false := by simpa using hz
        simp only [hz', Bool.not_false, if_true] at e
        rw [List.lookup_cons] at e ⊢
        cases hyz : y == z with
        | true => rw [hyz] at e; exact e
        | false => rw [hyz] at e; exact ih e
end
end Mine

namespace Mine
open PySem PySem.Calls PySem.Spec PyProof.Rows PySem.W PySem.SeqAt

noncomputable def closOf (env : Env) : List (Str × NameKind) → List (Str × Addr) → List (Str × Addr)
  | [], acc => acc
  | (n, k) :: r, acc => if k == .free then closOf env r ((n, (env.cells.lookup n).getD 0) :: acc) else closOf env r acc

section
variable {prog : Program} {w : World} {A : Around} {s : Shared} {env : Env} {C : Cls} {H0 : Heap} {P U : Addr → Prop} {B B' : Addr → Option Obj} {own : Str → Bool} {X X' : List (Str × Addr)} {ρ ρ' : Rho} {h h' : Heap} {k : Nat} {mg mb : Str → Option Value}
variable {r : Md → Scope → Rho → Expr → Option PyData}

theorem closureFor_eq {scope : Scope} (hc : ∀ p ∈ scope.names, p.2 = .free → ∃ c, env.cells.lookup p.1 = some c) : closureFor scope env = pure (closOf env scope.names []) := by
  unfold closureFor
  have main : ∀ (names : List (Str × NameKind)) (acc : List (Str × Addr)), (∀ p ∈ names, p.2 = .free → ∃ c, env.cells.lookup p.1 = some c) →
      (forIn names acc fun (x : Str × NameKind) (cs : List (Str × Addr)) => if (x.2 == NameKind.free) = true then cellOf env x.1 >>= fun a => pure (ForInStep.yield ((x.1, a) :: cs)) else pure (ForInStep.yield cs) : Sem (List (Str × Addr))) = pure (closOf env names acc) := by
    intro names
    induction names with
    | nil => intro acc _; rfl
    | cons p rr ih =>
      intro acc hp
      obtain ⟨n, kd⟩ := p
      rw [List.forIn_cons]
      unfold closOf
      by_cases hk : (kd == NameKind.free) = true
      · simp only [hk, if_true]
        obtain ⟨c, hc⟩ := hp (n, kd) List.mem_cons_self (beq_iff_eq.mp hk)
        have e : cellOf env n = pure c := by unfold cellOf; rw [hc]
        rw [e, hc]
        exact ih _ fun q hq => hp q (List.mem_cons_of_mem _ hq)
      · simp only [hk, if_false, Bool.false_eq_true]
        exact ih _ fun q hq => hp q (List.mem_cons_of_mem _ hq)
  have := main scope.names [] hc
  exact congrArg (fun t : Sem (List (Str × Addr)) => t >>= fun cs => pure cs) this

theorem closOf_mem : ∀ (names : List (Str × NameKind)) (acc : List (Str × Addr)), (∀ p ∈ names, p.2 = .free → ∃ c, env.cells.lookup p.1 = some c) → ∀ x c, (x, c) ∈ closOf env names acc → (x, c) ∈ acc ∨ ((x, NameKind.free) ∈ names ∧ env.cells.lookup x = some c)
  | [], _, _, _, _, m => .inl m
  | (n, kd) :: r, acc, hp, x, c, m => by
    unfold closOf at m
    split at m
    · rename_i hk
      have hk := beq_iff_eq.mp hk
      subst hk
      rcases closOf_mem r _ (fun q hq => hp q (List.mem_cons_of_mem _ hq)) x c m with q | ⟨q, e⟩
      · rcases List.mem_cons.mp q with q | q
        · obtain ⟨c', hc⟩ := hp (n, .free) List.mem_cons_self rfl
          simp only [Prod.mk.injEq] at q
          obtain ⟨rfl, rfl⟩ := q
          exact .inr ⟨List.mem_cons_self, by rw [hc]; rfl⟩
        · exact .inl q
      · exact .inr ⟨List.mem_cons_of_mem _ q, e⟩
    · rcases closOf_mem r _ (fun q hq => hp q (List.mem_cons_of_mem _ hq)) x c m with q | ⟨q, e⟩
      · exact .inl q
      · exact .inr ⟨List.mem_cons_of_mem _ q, e⟩
theorem closOf_keys : ∀ (names : List (Str × NameKind)) (acc : List (Str × Addr)) (x : Str), ((x, NameKind.free) ∈ names ∨ (acc.lookup x).isSome = true) → ((closOf env names acc).lookup x).isSome = true
  | [], _, _, m => m.elim (fun q => nomatch q) id
  | (n, kd) :: r, acc, x, m => by
    unfold closOf
    split
    · refine closOf_keys r _ x ?_
      rw [List.lookup_cons]
      cases hx : x == n with
      | true => exact .inr rfl
      | false =>
        refine m.imp (fun q => ?_) id
        rcases List.mem_cons.mp q with q | q
        · cases q; simp at hx
        · exact q
    · rename_i hk
      refine closOf_keys r _ x (m.imp (fun q => ?_) id)
      rcases List.mem_cons.mp q with q | q
      · cases q; exact absurd rfl hk
      · exact q

theorem cellsFrom_app : ∀ (names : List (Str × NameKind)) (n : Nat) (acc : List (Str × Addr)), cellsFrom n names acc = cellsFrom n names [] ++ acc
  | [], _, _ => rfl
  | (x, kd) :: r, n, acc => by
    unfold cellsFrom
    split
    · rw [cellsFrom_app r (n + 1) ((x, n) :: acc), cellsFrom_app r (n + 1) [(x, n)], List.append_assoc]; rfl
    · exact cellsFrom_app r n acc
theorem cellsFrom_mem : ∀ (names : List (Str × NameKind)) (n : Nat) (x : Str) (c : Addr), (x, c) ∈ cellsFrom n names [] → (x, NameKind.cell) ∈ names ∧ n ≤ c
  | [], _, _, _, m => nomatch m
  | (y, kd) :: r, n, x, c, m => by
    unfold cellsFrom at m
    split at m
    · rename_i hk
      have hk := beq_iff_eq.mp hk
      subst hk
      rw [cellsFrom_app] at m
      rcases List.mem_append.mp m with q | q
      · obtain ⟨a, b⟩ := cellsFrom_mem r (n + 1) x c q; exact ⟨List.mem_cons_of_mem _ a, by omega⟩
      · simp at q; obtain ⟨rfl, rfl⟩ := q; exact ⟨List.mem_cons_self, Nat.le_refl _⟩
    · obtain ⟨a, b⟩ := cellsFrom_mem r n x c m; exact ⟨List.mem_cons_of_mem _ a, b⟩

noncomputable def compEnv1 (scope : Scope) (env : Env) (L : Addr) (cl : List (Str × Addr)) : Env :=
  { scope := scope, locals := L, globals := env.globals, cells := cellsFrom (L + 1) scope.names cl, qual := env.qual, func := none, code := env.code, frame := env.frame, builtins := env.builtins }

theorem newCompEnv {E : Value → Shared → Prop} {scope : Scope} {cl : List (Str × Addr)} {Q : Env → Shared → Prop}
    (hQ : Q (compEnv1 scope env s.heap.objs.size cl) { s with heap := pushCells (s.heap.push { cls := .type "dict", data := .dict #[] }) scope.names }) :
    wpAny (model prog w) A (newFunctionEnv scope env.globals cl [] env.qual none .none (some env)) Q E s := by
  simp only [newFunctionEnv, Option.isSome_some, if_true]
  refine wpAny_bind (wpAny_alloc ?_)
  refine wpAny_bind (wpAny_layCells _ (fun name kind cells => by cases hkc : kind == NameKind.cell <;> simp [hkc]) _ _ _ _ ?_)
  rw [show ({ s with heap := s.heap.push { cls := .type "dict", data := .dict #[] } } : Shared).heap.objs.size = s.heap.objs.size + 1 from Heap.size_push ..]
  exact wpAny_pure hQ
end
end Mine

namespace Mine
open PySem PySem.Calls PySem.Spec PyProof.Rows PySem.W PySem.SeqAt

noncomputable def testsOf (ifs : List Expr) (env : Env) : Sem Bool :=
  forIn ifs true fun c r => if r = true then do let ok ← isTrue c env (eval c env); pure (ForInStep.yield ok) else pure (ForInStep.yield r)

theorem compTurn_wp {M : Model} {A : Around} {E : Value → Shared → Prop} {s : Shared} {elt : Expr} {gens : List Comprehension} {scope : Scope} {pos : Pos} {j : Nat} {it acc : Value} {env : Env} {g : Comprehension} {Q : PySem.Fin → Shared → Prop} (hg : gens[j]? = some g) (ha : g.is_async = 0)
    (h : wpAny M A (pyNext it) (fun r s₁ => match r with
      | none => Q (.done .next) s₁
      | some v => wpAny M A (letOwnedTupleGo g.target it v) (fun _ s₂ => wpAny M A (assign g.target env v) (fun _ s₃ => wpAny M A (testsOf g.ifs env) (fun ok s₄ => if ok = true then (match gens[j + 1]? with
          | some g' => g'.is_async = 0 ∧ wpAny M A (eval g'.iter env) (fun x s₅ => wpAny M A (foldedSetIterable g'.iter env x) (fun x s₆ => wpAny M A (pyIter x) (fun it' s₇ =>
              wpAny M A (runOwn (.compStart (.ListComp elt gens scope pos) (j + 1) it' acc env) env) (fun _ s₈ => Q (.again (.compLoop (.ListComp elt gens scope pos) j it acc env)) s₈) E s₇) E s₆) E s₅) E s₄
          | none => wpAny M A (eval elt env) (fun x s₅ => wpAny M A (call (.builtin "list.append") [acc, x]) (fun _ s₆ => Q (.again (.compLoop (.ListComp elt gens scope pos) j it acc env)) s₆) E s₅) E s₄)
        else Q (.again (.compLoop (.ListComp elt gens scope pos) j it acc env)) s₄) E s₃) E s₂) E s₁) E s) :
    wpAny M A (compTurn (.ListComp elt gens scope pos) j it acc env) Q E s := by
  unfold compTurn
  simp only [hg, ha]
  refine wpAny_bind (wpAny_standAt ?_)
  rw [if_neg (by decide)]
  refine wpAny_bind (wpAny_mono h (fun r s₁ h₁ => ?_) fun _ _ x => x)
  cases r with
  | none => exact wpAny_pure h₁
  | some v =>
    refine wpAny_bind (wpAny_mono h₁ (fun _ s₂ h₂ => ?_) fun _ _ x => x)
    refine wpAny_bind (wpAny_mono h₂ (fun _ s₃ h₃ => ?_) fun _ _ x => x)
    refine wpAny_bind (wpAny_mono h₃ (fun ok s₄ h₄ => ?_) fun _ _ x => x)
    cases ok with
    | false =>
      simp only [Bool.false_eq_true, if_false] at h₄ ⊢
      exact wpAny_pure h₄
    | true =>
      simp only [if_true] at h₄ ⊢
      cases hj : gens[j + 1]? with
      | none =>
        simp only [hj] at h₄ ⊢
        exact wpAny_bind (wpAny_bind (wpAny_mono h₄ (fun x s₅ h₅ => wpAny_bind (wpAny_mono h₅ (fun _ s₆ h₆ => wpAny_pure (wpAny_pure h₆)) fun _ _ x => x)) fun _ _ x => x))
      | some g' =>
        simp only [hj] at h₄ ⊢
        obtain ⟨ha', h₄⟩ := h₄
        refine wpAny_bind (wpAny_mono h₄ (fun x s₅ h₅ => wpAny_bind (wpAny_standAt ?_)) fun _ _ x => x)
        simp only [ha']
        rw [if_neg (by decide)]
        refine wpAny_bind (wpAny_mono h₅ (fun x' s₆ h₆ => ?_) fun _ _ x => x)
        rw [if_neg (by decide)]
        refine wpAny_bind (wpAny_holding (wpAny_mono h₆ (fun it' s₇ h₇ => ?_) fun _ _ x => x))
        exact wpAny_bind (wpAny_mono h₇ (fun _ s₈ h₈ => wpAny_pure h₈) fun _ _ x => x)

theorem codeAny_compStart_at {prog : Program} {w : World} {A : Around} {R : Result → Shared → Prop} {s : Shared} {elt : Expr} {gens : List Comprehension} {scope : Scope} {pos : Pos} {j : Nat} {it acc : Value} {env : Env} {g : Comprehension} (hg : gens[j]? = some g) (ha : g.is_async = 0)
    (h0 : codeAny (model prog w) A (.compLoop (.ListComp elt gens scope pos) j it acc env) R s)
    (h : wpAny (model prog w) A (pyIter it) (fun it' s' => codeAny (model prog w) A (.compLoop (.ListComp elt gens scope pos) j it' acc env) R s') NoE s) :
    codeAny (model prog w) A (.compStart (.ListComp elt gens scope pos) j it acc env) R s := by
  refine codeAny_of_tree ?_
  show wpAny _ _ ((compStart (.ListComp elt gens scope pos) j it acc env).onRaise (fun x => do noteFrame x env; standAt theWindowsPlace)) _ _ s
  refine wpAny_notedAt ?_
  unfold compStart
  have hc : clausesOf (.ListComp elt gens scope pos) = gens := rfl
  simp only [hc, hg, Option.elim_some, ha]
  rw [if_neg (by decide)]
  refine wpAny_bind (wpAny_askSetting (wpAny_ite ?_))
  have h' : wpAny (model prog w) A (pyIter it) (fun it' s' => codeAny (model prog w) A (.compLoop (.ListComp elt gens scope pos) j it' acc env) R s') (notedBy (model prog w) A env fun x s' => R (.error x) s') s := wpAny_mono h (fun _ _ x => x) fun _ _ x => x.elim
  split
  · first
      | exact wpAny_bind (wpAny_pure (wpAny_pure (And.intro rfl h0)))
      | exact wpAny_pure (And.intro rfl h0)
  · exact wpAny_bind (wpAny_rule (wpAny_bind (wpAny_standAt (wpAny_bind (wpAny_mono h' (fun it' s' h' => wpAny_pure (And.intro rfl h')) fun _ _ x => x)))))

theorem codeAny_compLoop_turn {prog : Program} {w : World} {A : Around} {R : Result → Shared → Prop} {s : Shared} {elt : Expr} {gens : List Comprehension} {scope : Scope} {pos : Pos} {j : Nat} {it acc : Value} {env : Env}
    (h : wpAny (model prog w) A (compTurn (.ListComp elt gens scope pos) j it acc env) (fun fin s' => match fin with | .done f => R (.ok f) s' | .again c' => c'.quiet = true ∧ codeAny (model prog w) A c' R s') NoE s) :
    codeAny (model prog w) A (.compLoop (.ListComp elt gens scope pos) j it acc env) R s := by
  refine codeAny_of_tree ?_
  show wpAny _ A ((compTurn (.ListComp elt gens scope pos) j it acc env).onRaise (fun x => do noteFrame x env; theTreesLotGoes x)) _ _ s
  exact wpAny_noted (wpAny_mono h (fun _ _ x => x) fun _ _ x => x.elim)
end Mine

namespace Mine
open PySem PySem.Calls PySem.Spec PyProof.Rows PySem.W PySem.SeqAt

section
variable {prog : Program} {w : World} {A : Around} {s : Shared} {env : Env} {C : Cls} {H0 : Heap} {P U : Addr → Prop} {B B' : Addr → Option Obj} {own : Str → Bool} {X X' : List (Str × Addr)} {ρ ρ' : Rho} {h h' : Heap} {k : Nat} {mg mb : Str → Option Value}
variable {r : Md → Scope → Rho → Expr → Option PyData}

theorem St.weaken (t : St C H0 P B env own X ρ h) (q : ∀ x ent, look env.scope ρ' x = some ent → look env.scope ρ x = some ent) : St C H0 P B env own X ρ' h :=
  { t with vars := fun x ent e => t.vars x ent (q x ent e) }

theorem tests_ok (S : Snd prog w H0 C k r) (rm : Room A k) {ifs : List Expr} {t : Bool} (c : Cx C H0 U env ρ s.heap) (e : evTests r env.scope ρ ifs = some t) :
    wpAny (model prog w) A (testsOf ifs env) (fun ok s' => ok = t ∧ ∃ h' tk, s' = { s with heap := h', toks := tk } ∧ Stays s.heap h') NoE s := by
  unfold evTests at e
  split at e
  · cases e
    exact wpAny_tests_nil ⟨rfl, s.heap, s.toks, rfl, Stays.refl _⟩
  · obtain ⟨d, hd, e⟩ := Option.bind_eq_some_iff.mp e
    refine wpAny_tests_one (thenT ((S _ _ _ _ _ _ _ _ rfl c rm).2.2 hd) fun b h' tk st q => ?_)
    subst q
    simp only [truthD, Option.some.injEq] at e
    exact ⟨e, h', tk, rfl, st⟩
  · cases e

theorem lot_ok {M : Model} {E : Value → Shared → Prop} {target : Expr} {I : Addr} {v : Value} {o : Obj} {vs : Array Value} {T : String} {Q : Unit → Shared → Prop} (ho : s.heap.get? I = some o) (hd : o.data = .fields vs) (hc : o.cls = .type T) (hT : lotNames.contains T = false) (q : Q () s) :
    wpAny M A (letOwnedTupleGo target (.ref I) v) Q E s := by
  have fin : ∀ (target : Expr) (a : Addr), (∃ es k p, target = .Tuple es k p) ∨ (∃ es p, target = .List es p) → wpAny M A (letOwnedTupleGo target (.ref I) (.ref a)) Q E s := by
    rintro target a (⟨es, k, p, rfl⟩ | ⟨es, p, rfl⟩) <;>
    · unfold letOwnedTupleGo
      refine wpAny_bind (wpAny_load ho ?_)
      simp only [hc, hd]
      refine wpAny_ite ?_
      have hT' : (["enumerate", "zip", "dict_itemiterator", "dict_reverseitemiterator", "odict_iterator", "itertools.zip_longest", "itertools.pairwise"].contains T) = false := hT
      rw [hT', Bool.false_and, if_neg Bool.false_ne_true]
      exact wpAny_pure q
  cases target <;> first | exact wpAny_pure q | (cases v <;> first | exact wpAny_pure q | exact fin _ _ (.inl ⟨_, _, _, rfl⟩) | exact fin _ _ (.inr ⟨_, _, rfl⟩))

theorem itemsD_ok (S : Snd prog w H0 C k r) (G : Ground0 mg mb H0) (rm : Room A k) (c : Cx C H0 U env ρ s.heap) {ie : Expr} {items : List PyData} (e : itemsD r env.scope ρ ie = some items) :
    (∀ x, foldedSetIterable ie env x = pure x) ∧ wpAny (model prog w) A (eval ie env) (fun x s₁ => wpAny (model prog w) A (pyIter x) (IterPost prog w A U s items) NoE s₁) NoE s := by
  have plain : (r .value env.scope ρ ie).bind listI = some items → wpAny (model prog w) A (eval ie env) (fun x s₁ => wpAny (model prog w) A (pyIter x) (IterPost prog w A U s items) NoE s₁) NoE s := by
    intro q
    obtain ⟨d, hd, q⟩ := Option.bind_eq_some_iff.mp q
    have hd' := listI_eq q
    subst hd'
    refine thenV ((S _ _ _ _ _ _ _ _ rfl c rm).1 hd) fun v h' tk st rp => ?_
    exact wpAny_mono (iter_list (s := { s with heap := h', toks := tk }) rm.handled rp) (fun _ _ z => iterPost_from st z) fun _ _ z => z
  have e0 : (match callName ie with
    | some c => if c.1 == ("range" : Str) && (env.scope.names.lookup c.1 == some .globalImplicit) && !isStar c.2 then (r .value env.scope ρ c.2).bind rangeI else (r .value env.scope ρ ie).bind listI
    | none => if isSet ie then none else (r .value env.scope ρ ie).bind listI) = some items := e
  cases hc : callName ie with
  | some fa =>
    obtain ⟨f, a⟩ := fa
    rw [hc] at e0
    obtain ⟨fp, p, rfl⟩ := callName_eq hc
    refine ⟨fun x => rfl, ?_⟩
    replace e0 : (if f == ("range" : Str) && (env.scope.names.lookup f == some .globalImplicit) && !isStar a then (r .value env.scope ρ a).bind rangeI else (r .value env.scope ρ (.Call (.Name f fp) [a] [] p)).bind listI) = some items := e0
    by_cases hf : (f == ("range" : Str) && (env.scope.names.lookup f == some .globalImplicit) && !isStar a) = true
    · rw [if_pos hf] at e0
      simp only [Bool.and_eq_true, beq_iff_eq, Bool.not_eq_true'] at hf
      obtain ⟨⟨rfl, hk⟩, hs⟩ := hf
      obtain ⟨d, hd, q4⟩ := Option.bind_eq_some_iff.mp e0
      cases d with
      | int n =>
        obtain ⟨hr, q5⟩ := iteS q4
        cases q5
        rw [Bool.and_eq_true, decide_eq_true_eq, decide_eq_true_eq] at hr
        refine Call_ (built_ok G c hk (by decide) G.range ?_)
        refine PyProof.Rows.callWith_type1 ?_ (star_cons hs) rfl
        refine wpAny_items_cons ?_ (star_cons hs)
        refine thenV ((S _ _ _ _ _ _ _ _ rfl c rm).1 hd) fun v h' tk st rp => wpAny_items_nil ?_
        obtain ⟨t, rfl⟩ := rp.intInv
        exact wpAny_mono (iter_range (s := { s with heap := h', toks := tk }) rm.handled hr.1 hr.2) (fun x s₁ z => wpAny_mono z (fun _ _ y => iterPost_from st y) fun _ _ y => y) fun _ _ z => z
      | _ => exact noSome q4
    · rw [if_neg hf] at e0
      exact plain e0
  | none =>
    rw [hc] at e0
    obtain ⟨hs, q⟩ := iteN e0
    refine ⟨fun x => foldedSet_id env x fun a b c q => ?_, plain q⟩
    rw [q] at hs; exact hs rfl

theorem lookup_sets {sc : Scope} : ∀ (b : List (Str × PyData)) (ρ : Rho) (x : Str) (ent : Ent), (∀ p ∈ b, p.1 ≠ x) → look sc ρ x = some ent → look sc (ρ.sets b) x = some ent
  | [], _, _, _, _, e => e
  | p :: b, ρ, x, ent, n, e => by
    refine lookup_sets b (ρ.set p.1 (.val p.2)) x ent (fun q hq => n q (List.mem_cons_of_mem _ hq)) ?_
    unfold look at e ⊢
    replace e := iteS e
    obtain ⟨c, e⟩ := e
    rw [if_pos c]
    unfold Rho.set
    have hne : (x == p.1) = false := by simpa using Ne.symm (n p List.mem_cons_self)
    rw [List.lookup_cons, hne]
    clear c
    induction ρ with
    | nil => exact e
    | cons y r ih =>
      obtain ⟨y, ey⟩ := y
      rw [List.filter_cons]
      rw [List.lookup_cons] at e
      by_cases hy : (y == p.1) = true
      · rw [hy]
        simp only [Bool.not_true, Bool.false_eq_true, if_false]
        cases hxy : x == y with
        | true => rw [beq_iff_eq.mp hxy, hy] at hne; cases hne
        | false => rw [hxy] at e; exact ih e
      · simp only [hy, Bool.not_false, if_true]
        rw [List.lookup_cons]
        cases hxy : x == y with
        | true => rw [hxy] at e; exact e
        | false => rw [hxy] at e; exact ih e
theorem dropXs_other (D : Addr) {z : Str} : ∀ (b : List (Str × PyData)), (∀ p ∈ b, p.1 ≠ z) → dropXs [(z, D)] b = [(z, D)]
  | [], _ => rfl
  | p :: b, n => by
    have : dropX [(z, D)] p.1 = [(z, D)] := by
      unfold dropX
      have hne : (z == p.1) = false := by simpa using Ne.symm (n p List.mem_cons_self)
      simp [hne]
    show dropXs (dropX [(z, D)] p.1) b = _
    rw [this]
    exact dropXs_other D b fun q hq => n q (List.mem_cons_of_mem _ hq)
end
end Mine

namespace Mine
open PySem PySem.Calls PySem.Spec PyProof.Rows PySem.W PySem.SeqAt

section
variable {prog : Program} {w : World} {A : Around} {s : Shared} {env : Env} {C : Cls} {H0 : Heap} {P U : Addr → Prop} {B B' : Addr → Option Obj} {own : Str → Bool} {X X' : List (Str × Addr)} {ρ ρ' : Rho} {h h' : Heap} {k : Nat} {mg mb : Str → Option Value}
variable {r : Md → Scope → Rho → Expr → Option PyData}

theorem ValsAt.liv {K : Option (List Value)} {items : List PyData} {U : Addr → Prop} (lv : Liv U h h') (v : ValsAt K items U h) : ValsAt K items U h' := by
  cases K with
  | some vs => exact lv.all v
  | none => exact v
theorem ValsAt.stays {K : Option (List Value)} {items : List PyData} {U : Addr → Prop} (st : Stays h h') (v : ValsAt K items U h) : ValsAt K items U h' := v.liv (.stays st)
theorem ValsAt.frz {K : Option (List Value)} {items : List PyData} (t : St C H0 P B env own X ρ h) (t' : St C H0 P B' env own X' ρ' h') (sub : ∀ a o, frz env own X h a = some o → B' a = some o) (v : ValsAt K items (UU P env X) h) : ValsAt K items (UU P env X') h' := by
  cases K with
  | some vs => exact t.repAll_frz t' sub v
  | none => exact v

/-- the walked thing's own objects stay where nothing of the frame's changes them -/
theorem Itr.keep {I : Addr} {fp : List Addr} {items : List PyData} {K : Option (List Value)} {Pv : Nat → Value → Prop} {Sv : Nat → Heap → Prop} (it : Itr prog w A I fp items K Pv Sv) (t : St C H0 P B env own X ρ h) (hU : ∀ b ∈ fp, b ≠ I → UU P env X b) {i : Nat} (sv : Sv i h)
    (keep : ∀ a o, frz env own X h a = some o → h'.get? a = some o) : Sv i h' := by
  refine it.W.frame i h h' sv fun b hb o e => keep b o (frz_of e ?_)
  by_cases hbI : b = I
  · subst hbI
    obtain ⟨o', vs, T, ho, hd, _⟩ := it.flds i h sv
    rintro (rfl | ⟨x, hx, hk, hc⟩ | ⟨p, hp, rfl⟩)
    · obtain ⟨m, o2, es, ep, ho2, hd2, _⟩ := t.ns
      rw [ho] at ho2; cases ho2; rw [hd] at hd2; cases hd2
    · obtain ⟨v, o2, ho2, hd2⟩ := t.isCell x b hc
      rw [ho] at ho2; cases ho2; rw [hd] at hd2; cases hd2
    · obtain ⟨_, _, vs2, n2, ho2⟩ := t.xs p hp
      rw [ho] at ho2; cases ho2; cases hd
  · obtain ⟨o', vs, n, ho, hd⟩ := it.seqs i h sv b hb hbI
    rw [e] at ho; cases ho
    exact t.seqNotMut e (.inl ⟨_, _, hd⟩) (.inl (hU b hb hbI))

theorem lookup_keep {ρ : Rho} {x y : Str} {ent : Ent} (hn : y ≠ x) (e : ρ.lookup y = some ent) : (ρ.filter fun p => !(p.1 == x)).lookup y = some ent := by
  induction ρ with
  | nil => exact e
  | cons p r ih =>
    obtain ⟨z, ez⟩ := p
    rw [List.filter_cons]
    rw [List.lookup_cons] at e
    by_cases hz : (z == x) = true
    · simp only [hz, Bool.not_true, Bool.false_eq_true, if_false]
      cases hyz : y == z with
      | true => exact absurd ((beq_iff_eq.mp hyz).trans (beq_iff_eq.mp hz)) hn
      | false => rw [hyz] at e; exact ih e
    · simp only [hz, Bool.not_false, if_true]
      rw [List.lookup_cons]
      cases hyz : y == z with
      | true => rw [hyz] at e; exact e
      | false => rw [hyz] at e; exact ih e
theorem own1_z {scope : Scope} (h : (scope.names.lookup zName).isNone = true) : own1 scope zName = false := by
  unfold own1
  rw [Option.isNone_iff_eq_none.mp h]

/-- what a turn does behind its tests: the element appended, or the next clause's loop -/
noncomputable def InnerOk (prog : Program) (w : World) (A : Around) (C : Cls) (H0 : Heap) (P : Addr → Prop) (r : Md → Scope → Rho → Expr → Option PyData) (elt : Expr) (gens : List Comprehension) (scope : Scope) (pos : Pos) (cenv : Env) (D : Addr) (gs : List Comprehension) (j : Nat) : Prop :=
  ∀ (ρ1 : Rho) (B : Addr → Option Obj) (done l : List PyData) (vs : List Value) (n : Nat) (s : Shared) (Q : Shared → Prop),
    evG r scope cenv.scope elt gs ρ1 (match gs with | [] => none | g' :: _ => itemsD r cenv.scope ρ1 g'.iter) = some l → (done ++ l).length ≤ top →
    St C H0 P B cenv (own1 scope) [(zName, D)] ρ1 s.heap → s.heap.get? D = some (lst vs n) → RepAll (UU P cenv [(zName, D)]) s.heap vs done →
    (∀ B' h' tk vs' n', (∀ a o, B a = some o → B' a = some o) → St C H0 P B' cenv (own1 scope) [(zName, D)] ρ1 h' → h'.get? D = some (lst vs' n') → RepAll (UU P cenv [(zName, D)]) h' vs' (done ++ l) → Q { s with heap := h', toks := tk }) →
    match gens[j + 1]? with
    | some g' => g'.is_async = 0 ∧ wpAny (model prog w) A (eval g'.iter cenv) (fun x s₅ => wpAny (model prog w) A (foldedSetIterable g'.iter cenv x) (fun x s₆ => wpAny (model prog w) A (pyIter x) (fun it' s₇ =>
        wpAny (model prog w) A (runOwn (.compStart (.ListComp elt gens scope pos) (j + 1) it' (.ref D) cenv) cenv) (fun _ s₈ => Q s₈) NoE s₇) NoE s₆) NoE s₅) NoE s
    | none => wpAny (model prog w) A (eval elt cenv) (fun x s₅ => wpAny (model prog w) A (call (.builtin "list.append") [.ref D, x]) (fun _ s₆ => Q s₆) NoE s₅) NoE s

noncomputable def LoopOk (prog : Program) (w : World) (A : Around) (C : Cls) (H0 : Heap) (P : Addr → Prop) (r : Md → Scope → Rho → Expr → Option PyData) (elt : Expr) (gens : List Comprehension) (scope : Scope) (pos : Pos) (cenv : Env) (D : Addr) (gs : List Comprehension) (j : Nat) : Prop :=
  ∀ (items : List PyData) (ρ0 : Rho) (B₀ : Addr → Option Obj) (I : Addr) (fp : List Addr) (all : List PyData) (i : Nat) (K : Option (List Value)) (Pv : Nat → Value → Prop) (Sv : Nat → Heap → Prop) (done out : List PyData) (vs : List Value) (n : Nat) (s : Shared) (R : Result → Shared → Prop),
      all.drop i = items → i ≤ all.length → evG r scope cenv.scope elt gs ρ0 (some items) = some out → (done ++ out).length ≤ top →
      St C H0 P B₀ cenv (own1 scope) [(zName, D)] ρ0 s.heap → B₀ I = none → H0.get? I = none → P I → Itr prog w A I fp all K Pv Sv → Sv i s.heap → ValsAt K all (UU P cenv [(zName, D)]) s.heap → (∀ b ∈ fp, b ≠ I → UU P cenv [(zName, D)] b) →
      s.heap.get? D = some (lst vs n) → RepAll (UU P cenv [(zName, D)]) s.heap vs done →
      (∀ B' h' tk vs' n', (∀ a o, B₀ a = some o → B' a = some o) → St C H0 P B' cenv (own1 scope) [(zName, D)] ρ0 h' → h'.get? D = some (lst vs' n') → RepAll (UU P cenv [(zName, D)]) h' vs' (done ++ out) → R (.ok .next) { s with heap := h', toks := tk }) →
      codeAny (model prog w) A (.compLoop (.ListComp elt gens scope pos) j (.ref I) (.ref D) cenv) R s

variable {elt : Expr} {gens : List Comprehension} {scope : Scope} {pos : Pos} {cenv : Env} {D : Addr}

theorem inner_nil (S : Snd prog w H0 C k r) (rm : Room A k) (hzc : isVar (cenv.scope.names.lookup zName) = false) {j : Nat} (hgj1 : gens[j + 1]? = none) : InnerOk prog w A C H0 P r elt gens scope pos cenv D [] j := by
  intro ρ1 B done l vs n s Q hl hlen t hD rd fin
  rw [hgj1]
  obtain ⟨de, hde, rfl⟩ := Option.map_eq_some_iff.mp hl
  refine thenV ((S _ _ _ _ cenv A s _ rfl t.cx rm).1 hde) fun ve h₄ tk₄ st₄ re => ?_
  have t₄ := t.stays st₄
  have hD₄ := st₄ _ _ hD
  have rd₄ := rd.stays st₄
  refine wpAny_list_append_plain (s := { s with heap := h₄, toks := tk₄ }) (items := vs.toArray) ⟨n, hD₄⟩ (fun h₅ ⟨n₅, hD₅⟩ hs₅ => ?_) (by rw [List.size_toArray, rd₄.length]; rw [List.length_append] at hlen; exact Nat.le_trans (by omega) top_le)
  have hD₅' : h₅.get? D = some (lst (vs ++ [ve]) n₅) := by rw [hD₅]; simp
  obtain ⟨lv₅, t₅⟩ := t₄.mutX (x := zName) (a := D) (by simp) hs₅ hD₅'
  refine fin B h₅ tk₄ (vs ++ [ve]) n₅ (fun _ _ e => e) (t₅.weaken fun x ent e => ?_) hD₅' ((lv₅.all rd₄).append (.cons (lv₅.rep re) .nil))
  unfold look at e ⊢
  replace e := iteS e
  obtain ⟨cc, e⟩ := e
  rw [if_pos cc]
  exact lookup_keep (fun q => by rw [q, hzc] at cc; cases cc) e

set_option maxHeartbeats 1000000 in
theorem loop_of_inner (S : Snd prog w H0 C k r) (rm : Room A k) (hz : (scope.names.lookup zName).isNone = true) {j : Nat} {g : Comprehension} {gs : List Comprehension} (hgj : gens[j]? = some g) (hga : g.is_async = 0)
    (inner : InnerOk prog w A C H0 P r elt gens scope pos cenv D gs j) : LoopOk prog w A C H0 P r elt gens scope pos cenv D (g :: gs) j := by
  intro items
  induction items with
  | nil =>
    intro ρ0 B₀ I fp all i K Pv Sv done out vs n s R hall hi he hlen t hbI hH hPI it sv vl hU hD rd fin
    have hi' : i = all.length := by
      have := congrArg List.length hall; simp at this; omega
    subst hi'
    refine codeAny_compLoop_turn (compTurn_wp hgj hga (it.W.done s _ _ sv fun h' tk kp => ?_))
    simp only [evG, Option.bind_some, List.foldr_nil, Option.some.injEq] at he
    subst he
    obtain ⟨o, fs, T, ho, hd, _⟩ := it.flds _ _ sv
    obtain ⟨lv, t'⟩ := t.ext ho hd hbI (fun b o hb e => kp b o (by simpa using hb) e) hPI
    refine fin B₀ h' tk vs n (fun _ _ e => e) t' (kp _ _ (fun q => ?_) hD) (by rw [List.append_nil]; exact lv.all rd)
    simp at q; rw [q, ho] at hD; cases hD; cases hd
  | cons d rest ih =>
    intro ρ0 B₀ I fp all i K Pv Sv done out vs n s R hall hi he hlen t hbI hH hPI it sv vl hU hD rd fin
    have hi' : i < all.length := by
      have := congrArg List.length hall; simp at this; omega
    have hdi : all[i]? = some d := by
      have := congrArg (fun l => l[0]?) hall
      simpa [List.getElem?_drop] using this
    refine codeAny_compLoop_turn (compTurn_wp hgj hga (it.W.item i s _ _ hi' sv fun v h₁ tk₁ pv sv₁ kp => ?_))
    obtain ⟨o, fs, T, ho, hd, _⟩ := it.flds _ _ sv
    obtain ⟨lv, t₁⟩ := t.ext ho hd hbI (fun b o hb e => kp b o (by simpa using hb) e) hPI
    have vl₁ := vl.liv lv
    have hD₁ : h₁.get? D = some (lst vs n) := kp _ _ (fun q => by simp at q; rw [q, ho] at hD; cases hD; cases hd) hD
    have rd₁ := lv.all rd
    obtain ⟨d', hd', rv⟩ := it.val hi' pv vl₁
    rw [hdi] at hd'; cases hd'
    obtain ⟨o₁, fs₁, T₁, ho₁, hd₁, hc₁, hT₁⟩ := it.flds _ _ sv₁
    refine lot_ok (s := { s with heap := h₁, toks := tk₁ }) ho₁ hd₁ hc₁ hT₁ ?_
    simp only [evG, Option.bind_some, List.foldr_cons] at he
    obtain ⟨b, hb, he⟩ := Option.bind_eq_some_iff.mp he
    replace he := iteS he
    obtain ⟨hown, he⟩ := he
    obtain ⟨tt, htt, he⟩ := Option.bind_eq_some_iff.mp he
    have hown' : b.all (fun p => own1 scope p.1) = true := List.all_eq_true.mpr fun p hp => (Bool.and_eq_true_iff.mp (List.all_eq_true.mp hown p hp)).1
    have hnew : ∀ p ∈ b, ∀ x ent, look cenv.scope ρ0 x = some ent → p.1 ≠ x := fun p hp x ent e q => by
      have := (Bool.and_eq_true_iff.mp (List.all_eq_true.mp hown p hp)).2
      rw [q] at this
      unfold look at e
      split at e
      · rw [e] at this; cases this
      · cases e
    have hbz : ∀ p ∈ b, p.1 ≠ zName := fun p hp q => by
      have := List.all_eq_true.mp hown' p hp
      rw [q, own1_z hz] at this; cases this
    obtain ⟨sub₁, ti₁⟩ := t₁.inflate
    refine wpAny_mono (bind_ok (s := { s with heap := h₁, toks := tk₁ }) ti₁ rm.handled hb hown' rv) (fun _ s₂ zP => ?_) fun _ _ z => z
    obtain ⟨h₂, tk₂, e₂, lv₂, kl₂, t₂⟩ := zP
    subst e₂
    rw [dropXs_other D b hbz] at t₂
    have wk : ∀ x ent, look cenv.scope ρ0 x = some ent → look cenv.scope (ρ0.sets b) x = some ent := fun x ent e => lookup_sets b ρ0 x ent (fun p hp => hnew p hp x ent e) e
    have sv₂ : Sv (i + 1) h₂ := it.keep t₁ hU sv₁ fun a o e => t₂.base a o e
    have vl₂ := vl₁.liv lv₂
    have hD₂ : h₂.get? D = some (lst vs n) := kl₂ _ _ hD₁ ⟨_, _, rfl⟩
    have rd₂ := lv₂.all rd₁
    refine wpAny_mono (tests_ok (s := { s with heap := h₂, toks := tk₂ }) S rm t₂.cx htt) (fun ok s₃ zP => ?_) fun _ _ z => z
    obtain ⟨hok, h₃, tk₃, e₃, st₃⟩ := zP
    subst e₃ hok
    have t₃ := t₂.stays st₃
    have sv₃ : Sv (i + 1) h₃ := it.W.frame _ _ _ sv₂ fun b _ o e => st₃ b o e
    have vl₃ := vl₂.stays st₃
    have hD₃ := st₃ _ _ hD₂
    have rd₃ := rd₂.stays st₃
    have hb0 : ∀ a o, B₀ a = some o → a ≠ I := fun a o e q => by rw [q, hbI] at e; cases e
    have hrest : all.drop (i + 1) = rest := by rw [← List.drop_drop, hall]; rfl
    cases ok with
    | false =>
      obtain ⟨o₃, fs₃, T₃, ho₃, hd₃, hc₃, hT₃⟩ := it.flds _ _ sv₃
      simp only [Bool.false_eq_true, if_false] at he ⊢
      refine ⟨rfl, ih ρ0 (hideB (frz cenv (own1 scope) [(zName, D)] h₁) I) I fp all (i + 1) K Pv Sv done out vs n _ R hrest hi' he hlen ((t₃.hide ho₃ hd₃ hH).weaken wk) (by unfold hideB; rw [if_pos rfl]) hH hPI it sv₃ vl₃ hU hD₃ rd₃ fun B' h' tk vs' n' sub t' => fin B' h' tk vs' n' (fun a o e => sub a o ?_) t'⟩
      unfold hideB; rw [if_neg (hb0 a o e)]; exact sub₁ a o e
    | true =>
      simp only [if_true] at he ⊢
      obtain ⟨l, hl, he⟩ := Option.bind_eq_some_iff.mp he
      obtain ⟨out', ho', rfl⟩ := Option.map_eq_some_iff.mp he
      obtain ⟨sub₃, ti₃⟩ := t₃.inflate
      refine inner (ρ0.sets b) (frz cenv (own1 scope) [(zName, D)] h₃) done l vs n { s with heap := h₃, toks := tk₃ } _ hl ?_ ti₃ hD₃ rd₃ fun B₅ h₅ tk₅ vs₅ n₅ sub₅ t₅ hD₅ rd₅ => ?_
      · rw [← List.append_assoc, List.length_append] at hlen; omega
      have sv₅ : Sv (i + 1) h₅ := it.keep t₃ hU sv₃ fun a o e => t₅.base a o (sub₅ a o e)
      obtain ⟨o₅, fs₅, T₅, ho₅, hd₅, _⟩ := it.flds _ _ sv₅
      refine ⟨rfl, ih ρ0 (hideB B₅ I) I fp all (i + 1) K Pv Sv (done ++ l) out' vs₅ n₅ _ R hrest hi' ho' (by rw [List.append_assoc]; exact hlen) ((t₅.hide ho₅ hd₅ hH).weaken wk) (by unfold hideB; rw [if_pos rfl]) hH hPI it sv₅ (vl₃.frz t₃ t₅ sub₅) hU hD₅ rd₅ fun B' h' tk vs' n' sub t' hD' rd' => fin B' h' tk vs' n' (fun a o e => sub a o ?_) t' hD' (by rw [← List.append_assoc]; exact rd')⟩
      unfold hideB; rw [if_neg (hb0 a o e)]; exact sub₅ a o (sub₃ a o (sub₁ a o e))

theorem inner_cons (S : Snd prog w H0 C k r) (G : Ground0 mg mb H0) (rm : Room A k) {j : Nat} {g' : Comprehension} {gs' : List Comprehension} (hgj1 : gens[j + 1]? = some g') (hga' : g'.is_async = 0)
    (L : LoopOk prog w A C H0 P r elt gens scope pos cenv D (g' :: gs') (j + 1)) : InnerOk prog w A C H0 P r elt gens scope pos cenv D (g' :: gs') j := by
  intro ρ1 B done l vs n s Q hl hlen t hD rd fin
  rw [hgj1]
  refine ⟨hga', ?_⟩
  simp only at hl
  cases hi : itemsD r cenv.scope ρ1 g'.iter with
  | none => rw [hi] at hl; simp [evG] at hl
  | some items =>
    rw [hi] at hl
    obtain ⟨hf, hw⟩ := itemsD_ok S G rm t.cx hi
    refine wpAny_mono hw (fun x s₅ h₅ => wpAny_of_eq (hf x) (wpAny_mono h₅ (fun it' s₇ h₇ => ?_) fun _ _ z => z)) fun _ _ z => z
    obtain ⟨h', tk, I, fp, K, Pv, Sv, rfl, st, rfl, it, s0, vl, hn, hU⟩ := h₇
    have t' := t.stays st
    have go : codeAny (model prog w) A (.compLoop (.ListComp elt gens scope pos) (j + 1) (.ref I) (.ref D) cenv) (fun r s' => match r with | .ok f => Q s' | .error e => cameBackBy (model prog w) A cenv NoE e s') { s with heap := h', toks := tk } := by
      refine L items ρ1 B I fp items 0 K Pv Sv done l vs n { s with heap := h', toks := tk } _ rfl (Nat.zero_le _) hl hlen t' ?_ ?_ (t.fresh I hn) it s0 vl hU (st _ _ hD) (rd.stays st) fun B' h'' tk' vs' n' sub t'' hD' rd' => fin B' h'' tk' vs' n' sub t'' hD' rd'
      · cases q : B I with
        | none => rfl
        | some o => rw [t.base I o q] at hn; cases hn
      · cases q : H0.get? I with
        | none => rfl
        | some o => rw [t.base I o (t.h0 I o q)] at hn; cases hn
    refine wpAny_runOwn (h := none) ?_
    exact codeAny_compStart_at hgj1 hga' go (it.W.self 0 { s with heap := h', toks := tk } _ _ s0 go)

theorem comp_loop (S : Snd prog w H0 C k r) (G : Ground0 mg mb H0) (rm : Room A k) (hz : (scope.names.lookup zName).isNone = true) (hzc : isVar (cenv.scope.names.lookup zName) = false) (hasync : ∀ g ∈ gens, g.is_async = 0) :
    ∀ (gs : List Comprehension) (g : Comprehension) (j : Nat), gens.drop j = g :: gs → LoopOk prog w A C H0 P r elt gens scope pos cenv D (g :: gs) j
  | [], g, j, hj => by
    have hgj : gens[j]? = some g := by
      have := congrArg (fun l => l[0]?) hj
      simpa [List.getElem?_drop] using this
    have hgj1 : gens[j + 1]? = none := by
      have := congrArg (fun l => l[1]?) hj
      simpa [List.getElem?_drop] using this
    exact loop_of_inner S rm hz hgj (hasync g (List.mem_of_getElem? hgj)) (inner_nil S rm hzc hgj1)
  | g' :: gs', g, j, hj => by
    have hgj : gens[j]? = some g := by
      have := congrArg (fun l => l[0]?) hj
      simpa [List.getElem?_drop] using this
    have hgj1 : gens[j + 1]? = some g' := by
      have := congrArg (fun l => l[1]?) hj
      simpa [List.getElem?_drop] using this
    have hd : gens.drop (j + 1) = g' :: gs' := by rw [← List.drop_drop, hj]; rfl
    exact loop_of_inner S rm hz hgj (hasync g (List.mem_of_getElem? hgj)) (inner_cons S G rm hgj1 (hasync g' (List.mem_of_getElem? hgj1)) (comp_loop S G rm hz hzc hasync gs' g' (j + 1) hd))
end
end Mine

namespace Mine
open PySem PySem.Calls PySem.Spec PyProof.Rows PySem.W PySem.SeqAt

section
variable {prog : Program} {w : World} {A : Around} {s : Shared} {env : Env} {C : Cls} {H0 : Heap} {P U : Addr → Prop} {B B' : Addr → Option Obj} {own : Str → Bool} {X X' : List (Str × Addr)} {ρ ρ' : Rho} {h h' : Heap} {k : Nat} {mg mb : Str → Option Value}
variable {r : Md → Scope → Rho → Expr → Option PyData}

theorem lookup_mapKey {f : Str → NameKind → NameKind} (x : Str) : ∀ (l : List (Str × NameKind)), (l.map fun p => (p.1, f p.1 p.2)).lookup x = (l.lookup x).map (f x)
  | [] => rfl
  | (y, kd) :: r => by
    rw [List.map_cons, List.lookup_cons, List.lookup_cons]
    cases hxy : x == y with
    | true => rw [beq_iff_eq.mp hxy]; rfl
    | false => exact lookup_mapKey x r

noncomputable def relK (env : Env) (n : Str) (kd : NameKind) : NameKind := if (kd == .free && env.scope.kind == .function && env.kindOf n == some .cell) = true then .cell else kd
theorem relabel_names (scope : Scope) (env : Env) : (relabel scope env).names = scope.names.map fun p => (p.1, relK env p.1 p.2) := by
  unfold relabel
  simp only
  refine List.map_congr_left fun p _ => ?_
  obtain ⟨n, kd⟩ := p
  show (if (kd == NameKind.free && env.scope.kind == .function && env.kindOf n == some .cell) = true then (n, NameKind.cell) else (n, kd)) = (n, relK env n kd)
  unfold relK
  split <;> rfl
theorem relabel_lookup (scope : Scope) (env : Env) (x : Str) : (relabel scope env).names.lookup x = (scope.names.lookup x).map (relK env x) := by
  rw [relabel_names, lookup_mapKey]

theorem lookup_append' {α : Type} {l l' : List (Str × α)} {x : Str} {c : α} (e : (l ++ l').lookup x = some c) : (l.lookup x = some c) ∨ (l.lookup x = none ∧ l'.lookup x = some c) := by
  induction l with
  | nil => exact .inr ⟨rfl, e⟩
  | cons p r ih =>
    obtain ⟨y, v⟩ := p
    rw [List.cons_append, List.lookup_cons] at e
    rw [List.lookup_cons]
    cases hxy : x == y with
    | true => rw [hxy] at e; exact .inl e
    | false => rw [hxy] at e; exact ih e
theorem lookup_append_l {α : Type} {l l' : List (Str × α)} {x : Str} {c : α} (e : l.lookup x = some c) : (l ++ l').lookup x = some c := by
  induction l with
  | nil => cases e
  | cons p r ih =>
    obtain ⟨y, v⟩ := p
    rw [List.lookup_cons] at e
    rw [List.cons_append, List.lookup_cons]
    cases hxy : x == y with
    | true => rw [hxy] at e; exact e
    | false => rw [hxy] at e; exact ih e
theorem lookup_append_r {α : Type} {l l' : List (Str × α)} {x : Str} (e : l.lookup x = none) : (l ++ l').lookup x = l'.lookup x := by
  induction l with
  | nil => rfl
  | cons p r ih =>
    obtain ⟨y, v⟩ := p
    rw [List.lookup_cons] at e
    rw [List.cons_append, List.lookup_cons]
    cases hxy : x == y with
    | true => rw [hxy] at e; cases e
    | false => rw [hxy] at e; exact ih e
theorem lookup_none_of {α : Type} {l : List (Str × α)} {x : Str} (n : ∀ c, (x, c) ∉ l) : l.lookup x = none := by
  cases q : l.lookup x with
  | none => rfl
  | some c => exact absurd (mem_of_lookup q) (n c)

theorem compRho_look {scope : Scope} {x : Str} {ent : Ent} (e : (compRho scope ρ).lookup x = some ent) : (x, NameKind.free) ∈ scope.names ∧ ρ.lookup x = some ent ∧ ∃ d, ent = .val d := by
  have m := mem_of_lookup e
  unfold compRho at m
  obtain ⟨p, hp, q⟩ := List.mem_filterMap.mp m
  obtain ⟨y, kd⟩ := p
  replace q := iteS q
  obtain ⟨hk, q⟩ := q
  split at q
  · rename_i d hd
    simp only [Option.some.injEq, Prod.mk.injEq] at q
    obtain ⟨rfl, rfl⟩ := q
    have hk' := beq_iff_eq.mp hk
    simp only at hk'
    subst hk'
    exact ⟨hp, hd, d, rfl⟩
  · cases q

structure ScopeOk (scope : Scope) (env : Env) : Prop where
  fn : scope.kind = .function
  z : (scope.names.lookup zName).isNone = true
  uniq : ∀ x kd, (x, kd) ∈ scope.names → scope.names.lookup x = some kd
  free : ∀ x, (x, NameKind.free) ∈ scope.names → env.kindOf x = some .cell ∨ env.kindOf x = some .free
theorem scopeOk_iff {scope : Scope} (e : scopeOk scope env.scope = true) : ScopeOk scope env := by
  unfold scopeOk at e
  simp only [Bool.and_eq_true, beq_iff_eq] at e
  obtain ⟨⟨h1, h2⟩, h3⟩ := e
  refine ⟨h1, h2, fun x kd m => ?_, fun x m => ?_⟩
  · have := List.all_eq_true.mp h3 _ m
    simp only [Bool.and_eq_true, beq_iff_eq] at this
    exact this.1
  · have := List.all_eq_true.mp h3 _ m
    simp only [Bool.and_eq_true, beq_iff_eq, beq_self_eq_true, Bool.not_true, Bool.false_or] at this
    have h4 := this.2
    show env.scope.names.lookup x = _ ∨ env.scope.names.lookup x = _
    cases q : env.scope.names.lookup x with
    | none => rw [q] at h4; cases h4
    | some kd => rw [q] at h4; cases kd <;> first | exact .inl rfl | exact .inr rfl | cases h4

noncomputable def cenvOf (scope : Scope) (env : Env) (L : Addr) (cl : List (Str × Addr)) : Env := { compEnv1 scope env L cl with scope := relabel scope env }

theorem comp_st {scope : Scope} (so : ScopeOk scope env) (c : Cx C H0 U env ρ s.heap) {h₂ : Heap} (st : Stays s.heap h₂) :
    St C H0 U (fun a => s.heap.get? a) (cenvOf scope env (h₂.push (lst [] 0)).objs.size (closOf env scope.names [])) (own1 scope) [(zName, h₂.objs.size)] (compRho scope ρ)
      (pushCells ((h₂.push (lst [] 0)).push { cls := .type "dict", data := .dict #[] }) scope.names) := by
  have hcl : ∀ p ∈ scope.names, p.2 = .free → ∃ c, env.cells.lookup p.1 = some c := fun p hp hk => c.cells p.1 (so.free p.1 (by rw [← hk]; exact hp))
  have st₃ : Stays h₂ (h₂.push (lst [] 0)) := stays_push _ _
  have st₄ : Stays (h₂.push (lst [] 0)) ((h₂.push (lst [] 0)).push { cls := .type "dict", data := .dict #[] }) := stays_push _ _
  have st₅ : Stays ((h₂.push (lst [] 0)).push { cls := .type "dict", data := .dict #[] }) (pushCells ((h₂.push (lst [] 0)).push { cls := .type "dict", data := .dict #[] }) scope.names) := pushCells_keeps _ _
  have stA : Stays s.heap (pushCells ((h₂.push (lst [] 0)).push { cls := .type "dict", data := .dict #[] }) scope.names) := st.trans (st₃.trans (st₄.trans st₅))
  have ok := cellsFrom_ok scope.names ((h₂.push (lst [] 0)).push { cls := .type "dict", data := .dict #[] }) ((h₂.push (lst [] 0)).objs.size + 1) [] ⟨fun _ _ hm => (nomatch hm), List.Pairwise.nil⟩ (Nat.le_of_eq (Heap.size_push ..).symm)
  have hs4 : ((h₂.push (lst [] 0)).push { cls := .type "dict", data := .dict #[] }).objs.size = (h₂.push (lst [] 0)).objs.size + 1 := Heap.size_push ..
  have hs3 : (h₂.push (lst [] 0)).objs.size = h₂.objs.size + 1 := Heap.size_push ..
  have hL4 : ((h₂.push (lst [] 0)).push { cls := .type "dict", data := .dict #[] }).get? (h₂.push (lst [] 0)).objs.size = some { cls := .type "dict", data := .dict #[] } := Heap.get?_push_size _ rfl
  have hD3 : (h₂.push (lst [] 0)).get? h₂.objs.size = some (lst [] 0) := Heap.get?_push_size _ rfl
  have hns : (pushCells ((h₂.push (lst [] 0)).push { cls := .type "dict", data := .dict #[] }) scope.names).Ns (h₂.push (lst [] 0)).objs.size (fun _ => none) := (Heap.Ns.new (h₂.push (lst [] 0)) (.type "dict")).keeps (pushCells_keeps _ _)
  have hbL : s.heap.get? (h₂.push (lst [] 0)).objs.size = none := none_of_stays (st.trans st₃) (new_none _)
  have hbD : s.heap.get? h₂.objs.size = none := none_of_stays st (new_none _)
  have nohigh : ∀ a, (h₂.push (lst [] 0)).objs.size + 1 ≤ a → s.heap.get? a = none := fun a ha => by
    refine none_of_stays (st.trans (st₃.trans st₄)) ?_
    cases q : ((h₂.push (lst [] 0)).push { cls := .type "dict", data := .dict #[] }).get? a with
    | none => rfl
    | some o => have := Heap.lt_size q; rw [hs4] at this; exact absurd this (Nat.not_lt.mpr ha)
  rw [hs4] at ok
  generalize hL : (h₂.push (lst [] 0)).objs.size = L at *
  have cells : ∀ x a, (cellsFrom (L + 1) scope.names (closOf env scope.names [])).lookup x = some a →
      ((x, a) ∈ cellsFrom (L + 1) scope.names [] ∧ (x, NameKind.cell) ∈ scope.names ∧ L + 1 ≤ a) ∨ (env.cells.lookup x = some a ∧ (x, NameKind.free) ∈ scope.names) := fun x a e => by
    rw [cellsFrom_app] at e
    rcases lookup_append' e with q | ⟨_, q⟩
    · have m := mem_of_lookup q
      obtain ⟨m1, m2⟩ := cellsFrom_mem _ _ _ _ m
      exact .inl ⟨m, m1, m2⟩
    · rcases closOf_mem _ _ hcl x a (mem_of_lookup q) with z | ⟨z, e⟩
      · cases z
      · exact .inr ⟨e, z⟩
  have cellIn : ∀ x, scope.names.lookup x = some .cell → ∃ a, (cellsFrom (L + 1) scope.names (closOf env scope.names [])).lookup x = some a ∧ (x, a) ∈ cellsFrom (L + 1) scope.names [] := fun x e => by
    obtain ⟨a, ha⟩ := Option.isSome_iff_exists.mp (cellsFrom_some (x := x) scope.names (L + 1) [] (.inl e))
    exact ⟨a, by rw [cellsFrom_app]; exact lookup_append_l ha, mem_of_lookup ha⟩
  have freeIn : ∀ x, (x, NameKind.free) ∈ scope.names → ∃ a, (cellsFrom (L + 1) scope.names (closOf env scope.names [])).lookup x = some a ∧ env.cells.lookup x = some a := fun x m => by
    obtain ⟨a, ha⟩ := Option.isSome_iff_exists.mp (closOf_keys (env := env) scope.names [] x (.inl m))
    have hno : (cellsFrom (L + 1) scope.names []).lookup x = none := lookup_none_of fun c' m' => by
      have := (cellsFrom_mem _ _ _ _ m').1
      have h1 := so.uniq _ _ this
      rw [so.uniq _ _ m] at h1; cases h1
    refine ⟨a, by rw [cellsFrom_app, lookup_append_r hno]; exact ha, ?_⟩
    rcases closOf_mem _ _ hcl x a (mem_of_lookup ha) with z | ⟨_, e⟩
    · cases z
    · exact e
  refine { fn := so.fn, gl := c.gl, bl := c.bl, h0 := c.h0, base := stA, fresh := fun b e => c.fresh b (none_of_stays stA e), ns := ?_, bL := ?_, mine := ?_, apart := ?_, cells := ?_, isCell := ?_, xs := ?_, xp := fun p hp => by simp only [List.mem_singleton] at hp; subst hp; exact c.fresh _ hbD, xnd := ?_, xfn := ?_, vars := ?_ }
  · exact ⟨_, hns⟩
  · exact hbL
  · intro x hx
    unfold own1 at hx
    split at hx
    · rename_i hk
      left
      show (relabel scope env).names.lookup x = _
      rw [relabel_lookup, hk]
      rfl
    · rename_i hk
      right
      obtain ⟨a, ha, hm⟩ := cellIn x hk
      refine ⟨?_, a, none, ha, (ok.empty x a hm).1, nohigh a (ok.empty x a hm).2⟩
      show (relabel scope env).names.lookup x = _
      rw [relabel_lookup, hk]
      rfl
    · cases hx
  · intro x y a hx hy hb
    have inOwn : ∀ z, (cellsFrom (L + 1) scope.names (closOf env scope.names [])).lookup z = some a → (z, a) ∈ cellsFrom (L + 1) scope.names [] := fun z hz => by
      rcases cells z a hz with ⟨m, _⟩ | ⟨e, _⟩
      · exact m
      · obtain ⟨v, o, ho, _⟩ := c.isCell z a e
        rw [hb] at ho; cases ho
    exact name_of_addr ok.apart (inOwn x hx) (inOwn y hy)
  · intro x hx
    have hx' : (scope.names.lookup x).map (relK env x) = some .cell ∨ (scope.names.lookup x).map (relK env x) = some .free := by rw [← relabel_lookup]; exact hx
    cases hk : scope.names.lookup x with
    | none => rw [hk] at hx'; rcases hx' with q | q <;> cases q
    | some kd =>
      rw [hk] at hx'
      cases kd with
      | cell => obtain ⟨a, ha, _⟩ := cellIn x hk; exact ⟨a, ha⟩
      | free => obtain ⟨a, ha, _⟩ := freeIn x (mem_of_lookup hk); exact ⟨a, ha⟩
      | «local» => rcases hx' with q | q <;> simp [relK] at q
      | globalExplicit => rcases hx' with q | q <;> simp [relK] at q
      | globalImplicit => rcases hx' with q | q <;> simp [relK] at q
  · intro x a hx
    rcases cells x a hx with ⟨m, _⟩ | ⟨e, _⟩
    · exact ⟨none, (ok.empty x a m).1⟩
    · obtain ⟨v, i⟩ := c.isCell x a e; exact ⟨v, i.keeps stA⟩
  · intro p hp
    simp only [List.mem_singleton] at hp
    subst hp
    refine ⟨hbD, ?_, [], 0, st₅ _ _ (st₄ _ _ hD3)⟩
    show h₂.objs.size ≠ L
    omega
  · intro p hp q hq _
    simp only [List.mem_singleton] at hp hq
    rw [hp, hq]
  · intro p hp q hq _
    simp only [List.mem_singleton] at hp hq
    rw [hp, hq]
  · intro x ent e
    unfold look at e
    replace e := iteS e
    obtain ⟨hv, e⟩ := e
    obtain ⟨hm, hl, d, rfl⟩ := compRho_look e
    have hlk : look env.scope ρ x = some (.val d) := by
      unfold look
      rw [if_pos]
      · exact hl
      · rw [Bool.and_eq_true] at hv ⊢
        refine ⟨?_, hv.2⟩
        rcases so.free x hm with q | q <;> (show isVar (env.scope.names.lookup x) = true; unfold Env.kindOf at q; rw [q]; rfl)
    obtain ⟨v, hv', he⟩ := c.vars x _ hlk
    obtain ⟨a, ha, ha'⟩ := freeIn x hm
    have hk : scope.names.lookup x = some .free := so.uniq _ _ hm
    have hcell : s.heap.IsCell a (some v) := by
      rcases hv' with ⟨q, _⟩ | ⟨_, a', e', i⟩
      · rcases so.free x hm with z | z <;> (rw [q] at z; cases z)
      · rw [ha'] at e'; cases e'; exact i
    refine ⟨v, .inr ⟨?_, a, ha, hcell.keeps stA⟩, ?_⟩
    · show (relabel scope env).names.lookup x = _ ∨ (relabel scope env).names.lookup x = _
      rw [relabel_lookup, hk]
      show some (relK env x .free) = _ ∨ some (relK env x .free) = _
      unfold relK
      split
      · exact .inl rfl
      · exact .inr rfl
    · obtain ⟨as, rd, u⟩ := he
      refine ⟨as, reads_stays stA rd, fun b hb => ⟨u b hb, fun q => ?_, fun p hp q => ?_⟩⟩
      · obtain ⟨o, ho⟩ := repAll_new.reads_alloc rd b hb
        rw [q] at ho
        have : s.heap.get? L = some o := ho
        rw [hbL] at this; cases this
      · simp only [List.mem_singleton] at hp
        subst hp
        obtain ⟨o, ho⟩ := repAll_new.reads_alloc rd b hb
        rw [← q] at ho
        have : s.heap.get? h₂.objs.size = some o := ho
        rw [hbD] at this; cases this
end
end Mine

namespace Mine
open PySem PySem.Calls PySem.Spec PyProof.Rows PySem.W PySem.SeqAt

section
variable {prog : Program} {w : World} {A : Around} {s : Shared} {env : Env} {C : Cls} {H0 : Heap} {P U : Addr → Prop} {B B' : Addr → Option Obj} {own : Str → Bool} {X X' : List (Str × Addr)} {ρ ρ' : Rho} {h h' : Heap} {k : Nat} {mg mb : Str → Option Value}
variable {r : Md → Scope → Rho → Expr → Option PyData}

/-- behind a comprehension's loop -/
structure CompDone (U : Addr → Prop) (s : Shared) (ds : List PyData) (h' : Heap) (D L : Addr) (vs : List Value) (n : Nat) : Prop where
  st : Stays s.heap h'
  nD : s.heap.get? D = none
  nL : s.heap.get? L = none
  ne : D ≠ L
  hD : h'.get? D = some (lst vs n)
  ns : ∃ m, h'.Ns L m
  rep : RepAll (fun b => U b ∧ b ≠ L ∧ b ≠ D) h' vs ds

theorem comp_core (S : Snd prog w H0 C k r) (G : Ground0 mg mb H0) (rm : Room A k) (c : Cx C H0 U env ρ s.heap) {elt : Expr} {gens : List Comprehension} {scope : Scope} {pos p : Pos} {d : PyData}
    (e : evComp r env.scope ρ elt gens scope = some d) : ∃ ds, d = .list ds ∧ ∀ (use : Option (Value → Sem Unit)) (Q : Value → Shared → Prop),
    ((∀ h' tk D L vs n, CompDone U s ds h' D L vs n → compPost (model prog w) A NoE use Q (.ref D) L (.ok .next) { s with heap := h', toks := tk }) →
      wpAny (model prog w) A (comprehension (.ListComp elt gens scope pos) scope env p (newList []) (firstAsync gens) (firstIter gens env) use) Q NoE s) := by
  unfold evComp at e
  split at e
  · cases e
  · rename_i g gs
    split at e
    · rename_i hok
      rw [Bool.and_eq_true] at hok
      obtain ⟨hso, has⟩ := hok
      have so := scopeOk_iff hso
      have hasync : ∀ g' ∈ g :: gs, g'.is_async = 0 := fun g' hg' => by
        have := List.all_eq_true.mp has g' hg'
        simpa using this
      obtain ⟨ds, hds, e⟩ := Option.bind_eq_some_iff.mp e
      obtain ⟨rfl, hlen⟩ := mkList_some e
      refine ⟨ds, rfl, fun use Q fin => ?_⟩
      cases hi : itemsD r env.scope ρ g.iter with
      | none => rw [hi] at hds; simp [evG] at hds
      | some items =>
        rw [hi] at hds
        obtain ⟨hf, hw⟩ := itemsD_ok S G rm c hi
        have hfa : firstAsync (g :: gs) = false := by
          have h0 := hasync g List.mem_cons_self
          obtain ⟨gt, gi, gf, ga⟩ := g
          simp only at h0
          subst h0
          rfl
        have hfi : firstIter (g :: gs) env = eval g.iter env := by obtain ⟨gt, gi, gf, ga⟩ := g; rfl
        rw [hfa, hfi]
        have hcl : ∀ p ∈ scope.names, p.2 = .free → ∃ c, env.cells.lookup p.1 = some c := fun p hp hk => c.cells p.1 (so.free p.1 (by rw [← hk]; exact hp))
        refine wpAny_comprehension_free (g := g) (gs := gs) rfl hf (closureFor_eq hcl) so.fn (fun x hx hk => by have := so.uniq x.1 x.2 hx; rw [hk] at this; exact this) ?_
        refine wpAny_mono hw (fun x s₁ h₁ => wpAny_mono h₁ (fun it s₂ h₂ => ?_) fun _ _ z => z) fun _ _ z => z
        obtain ⟨h₂, tk, I, fp, K, Pv, Sv, rfl, st, rfl, it, s0, vl, hn, hU⟩ := h₂
        refine wpAny_newObj_type (newCompEnv ?_) (by size_fits)
        have t := comp_st (s := s) (C := C) (H0 := H0) (U := U) so c st
        have st' : Stays h₂ (pushCells ((h₂.push (lst [] 0)).push { cls := .type "dict", data := .dict #[] }) scope.names) := (stays_push _ _).trans ((stays_push _ _).trans (pushCells_keeps _ _))
        have hDn : h₂.get? h₂.objs.size = none := new_none _
        have hLn : h₂.get? (h₂.push (lst [] 0)).objs.size = none := none_of_stays (stays_push _ _) (new_none _)
        have upU : ∀ b, (∃ o, h₂.get? b = some o) → U b → UU U (cenvOf scope env (h₂.push (lst [] 0)).objs.size (closOf env scope.names [])) [(zName, h₂.objs.size)] b := fun b ⟨o, ho⟩ u => by
          refine ⟨u, fun q => ?_, fun p hp q => ?_⟩
          · have q' : b = (h₂.push (lst [] 0)).objs.size := q
            rw [q', hLn] at ho; cases ho
          · simp only [List.mem_singleton] at hp
            subst hp
            have q' : h₂.objs.size = b := q
            rw [← q', hDn] at ho; cases ho
        have vl' : ValsAt K items (UU U (cenvOf scope env (h₂.push (lst [] 0)).objs.size (closOf env scope.names [])) [(zName, h₂.objs.size)]) (pushCells ((h₂.push (lst [] 0)).push { cls := .type "dict", data := .dict #[] }) scope.names) := by
          cases K with
          | none => exact vl
          | some vs =>
            obtain ⟨as, rd, u⟩ := vl
            exact ⟨as, readsAll_stays st' rd, fun b hb => upU b (repAll_new.readsAll_alloc rd b hb) (u b hb)⟩
        have s0' : Sv 0 (pushCells ((h₂.push (lst [] 0)).push { cls := .type "dict", data := .dict #[] }) scope.names) := it.W.frame _ _ _ s0 fun b _ o e => st' b o e
        have hU' : ∀ b ∈ fp, b ≠ I → UU U (cenvOf scope env (h₂.push (lst [] 0)).objs.size (closOf env scope.names [])) [(zName, h₂.objs.size)] b := fun b hb hbI => by
          obtain ⟨o, vs, n, ho, _⟩ := it.seqs _ _ s0 b hb hbI
          exact upU b ⟨o, ho⟩ (hU b hb hbI)
        have hzc : isVar ((cenvOf scope env (h₂.push (lst [] 0)).objs.size (closOf env scope.names [])).scope.names.lookup zName) = false := by
          show isVar ((relabel scope env).names.lookup zName) = false
          rw [relabel_lookup, Option.isNone_iff_eq_none.mp so.z]
          rfl
        have L := comp_loop (prog := prog) (w := w) (A := A) (P := U) (elt := elt) (pos := pos) (cenv := cenvOf scope env (h₂.push (lst [] 0)).objs.size (closOf env scope.names [])) (D := h₂.objs.size) S G rm so.z hzc hasync gs g 0 rfl
        have go := L items (compRho scope ρ) (fun a => s.heap.get? a) I fp items 0 K Pv Sv [] ds [] 0 { s with heap := pushCells ((h₂.push (lst [] 0)).push { cls := .type "dict", data := .dict #[] }) scope.names, toks := tk } (compPost (model prog w) A NoE use Q (.ref h₂.objs.size) (h₂.push (lst [] 0)).objs.size) rfl (Nat.zero_le _) hds (by simpa using hlen) t hn (none_of_stays c.h0 hn) (c.fresh I hn) it s0' vl' hU'
          ((stays_push _ _).trans (pushCells_keeps _ _) _ _ (Heap.get?_push_size _ rfl)) .nil fun B' h' tk' vs' n' sub t' hD' rd' => fin h' tk' _ _ vs' n' ⟨fun a o e => t'.base a o (sub a o e), none_of_stays st hDn, none_of_stays st hLn, ?_, hD', t'.ns, rd'.mono fun b u => ⟨u.1, u.2.1, fun q => u.2.2 (zName, h₂.objs.size) (by simp) q.symm⟩⟩
        · exact codeAny_compStart_at (g := g) rfl (hasync g List.mem_cons_self) go (it.W.self 0 _ _ _ s0' go)
        · have hs3 : (h₂.push (lst [] 0)).objs.size = h₂.objs.size + 1 := Heap.size_push ..
          intro q
          rw [hs3] at q
          exact absurd q (Nat.ne_of_lt (Nat.lt_succ_self _))
    · cases e

theorem comp_ok (S : Snd prog w H0 C k r) (G : Ground0 mg mb H0) (rm : Room A k) (c : Cx C H0 U env ρ s.heap) {elt : Expr} {gens : List Comprehension} {scope : Scope} {pos : Pos} {d : PyData} (e : evComp r env.scope ρ elt gens scope = some d) :
    ∃ ds, d = .list ds ∧ wpAny (model prog w) A (eval (.ListComp elt gens scope pos) env) (EvPostF U s ds) NoE s := by
  obtain ⟨ds, rfl, core⟩ := comp_core (pos := pos) (p := firstIterPos gens pos) S G rm c e
  refine ⟨ds, rfl, ?_⟩
  rw [eval_ListComp]
  refine core none _ fun h' tk D L vs n cd => ?_
  obtain ⟨m, hm⟩ := cd.ns
  refine ⟨m, hm, fun h'' hs => ⟨h'', tk, D, vs, n, rfl, fun a o e => (hs.2 a fun q => ?_).trans (cd.st a o e), rfl, cd.nD, (hs.2 D cd.ne).trans cd.hD, ?_⟩⟩
  · rw [q, cd.nL] at e; cases e
  · exact (cd.rep.but hs (noTup_dict hm) fun q => q.2.1 rfl).mono fun b u => ⟨u.1, u.2.2⟩
end
end Mine

namespace Mine
open PySem PySem.Calls PySem.Spec PyProof.Rows PySem.W PySem.SeqAt

section
variable {prog : Program} {w : World} {A : Around} {s : Shared} {env : Env} {C : Cls} {H0 : Heap} {P U : Addr → Prop} {B B' : Addr → Option Obj} {own : Str → Bool} {X X' : List (Str × Addr)} {ρ ρ' : Rho} {h h' : Heap} {k : Nat} {mg mb : Str → Option Value}
variable {r : Md → Scope → Rho → Expr → Option PyData} {Φ : Tab} {srt : PyData → Option PyData}

theorem slice_eval (S : Snd prog w H0 C k r) (c : Cx C H0 U env ρ s.heap) (rm : Room A k) {v : Expr} {lo hi st : Option Expr} {p pos : Pos} {d e : PyData} {l u t : Option Int} (hv : r .read env.scope ρ v = some d) (hl : evO r env.scope ρ lo = some l) (hu : evO r env.scope ρ hi = some u) (ht : evO r env.scope ρ st = some t) (q : cutD d l u t = some e) :
    ∃ es, e = .list es ∧ wpAny (model prog w) A (eval (.Subscript v (.Slice lo hi st p) pos) env) (EvPostF U s es) NoE s := by
  obtain ⟨es, rfl⟩ : ∃ es, e = .list es := by
    cases d with
    | list ds =>
      cases t with
      | none => exact ⟨_, (Option.some.inj (iteS (show (if ds.length ≤ top then some (PyData.list (cutL ds l u)) else none) = some e by cases l <;> cases u <;> exact q)).2).symm⟩
      | some z =>
        exact noSome q
    | _ => exact noSome q
  refine ⟨es, rfl, Subscript_ (thenR ((S _ _ _ _ _ _ _ _ rfl c rm).2.1 hv) fun x h₁ tk₁ st₁ rx => ?_)⟩
  refine wpAny_Slice ?_
  refine wpAny_mono (part_ok (s := { s with heap := h₁, toks := tk₁ }) S (c.stays st₁) rm hl) (fun vl s₂ zP => ?_) fun _ _ z => z
  obtain ⟨pl, h₂, tk₂, e₂, st₂⟩ := zP
  subst e₂
  refine wpAny_mono (part_ok (s := { s with heap := h₂, toks := tk₂ }) S (c.stays (st₁.trans st₂)) rm hu) (fun vu s₃ zP => ?_) fun _ _ z => z
  obtain ⟨pu, h₃, tk₃, e₃, st₃⟩ := zP
  subst e₃
  refine wpAny_mono (part_ok (s := { s with heap := h₃, toks := tk₃ }) S (c.stays (st₁.trans (st₂.trans st₃))) rm ht) (fun vt s₄ zP => ?_) fun _ _ z => z
  obtain ⟨pt, h₄, tk₄, e₄, st₄⟩ := zP
  subst e₄
  obtain ⟨es', q', z⟩ := cut_ok (prog := prog) (w := w) (A := A) (s := { s with heap := h₄, toks := tk₄ }) (U := U) (value := v) (slice := .Slice lo hi st p) (rx.stays (st₂.trans (st₃.trans st₄))) pl pu pt q tk₄
  cases q'
  exact wpAny_mono z (fun _ _ y => evPostF_from (st₁.trans (st₂.trans (st₃.trans st₄))) y) fun _ _ y => y

theorem noMarks {op : CmpOp} {e : Expr} (h : ¬ isSet e = true) : behindInMarks op e = false := by
  cases e <;> first | rfl | exact absurd rfl h

structure EvOk (prog : Program) (w : World) (A : Around) (env : Env) (U : Addr → Prop) (s : Shared) (e : Expr) (d : PyData) (rd : Bool) : Prop where
  r : wpAny (model prog w) A (eval e env) (EvPostR U s d) NoE s
  v : rd = false → wpAny (model prog w) A (eval e env) (EvPost U s d) NoE s
  f : isFresh e = true → ∀ ds, d = .list ds → wpAny (model prog w) A (eval e env) (EvPostF U s ds) NoE s
theorem EvOk.ofV {e : Expr} {d : PyData} {rd : Bool} (n : isFresh e = true → False) (z : wpAny (model prog w) A (eval e env) (EvPost U s d) NoE s) : EvOk prog w A env U s e d rd :=
  ⟨wpAny_mono z (fun _ _ y => y.toR) fun _ _ y => y, fun _ => z, fun f => (n f).elim⟩
theorem EvOk.ofF (c : Cx C H0 U env ρ s.heap) {e : Expr} {d : PyData} {rd : Bool} (z : ∃ ds, d = .list ds ∧ wpAny (model prog w) A (eval e env) (EvPostF U s ds) NoE s) : EvOk prog w A env U s e d rd := by
  obtain ⟨ds, rfl, z⟩ := z
  have z' : wpAny (model prog w) A (eval e env) (EvPost U s (.list ds)) NoE s := wpAny_mono z (fun _ _ y => y.plain c.fresh) fun _ _ y => y
  exact ⟨wpAny_mono z' (fun _ _ y => y.toR) fun _ _ y => y, fun _ => z', fun _ ds' q => by cases q; exact z⟩
theorem evV_ok (S : Snd prog w H0 C k r) (PS : SpecOk prog w mg H0 C Φ k) (T : SortOk prog w srt) (G : Ground0 mg mb H0) (c : Cx C H0 U env ρ s.heap) (rm : Room A k) {rd : Bool} {e : Expr} {d : PyData} (q : evV r Φ srt rd env.scope ρ e = some d) :
    EvOk prog w A env U s e d rd := by
  cases e with
  | Constant c0 kd p => exact .ofV (fun f => by cases f) (const_ok q)
  | Name x p =>
    obtain ⟨a, b⟩ := name_ok (prog := prog) (w := w) (A := A) c q
    exact ⟨a, b, fun f => by cases f⟩
  | BinOp a op b p =>
    obtain ⟨x, hx, q⟩ := Option.bind_eq_some_iff.mp q
    obtain ⟨y, hy, q⟩ := Option.bind_eq_some_iff.mp q
    have z : wpAny (model prog w) A (eval (.BinOp a op b p) env) (EvPost U s d) NoE s := by
      refine wpAny_BinOp (thenR ((S _ _ _ _ _ _ _ _ rfl c rm).2.1 hx) fun vx h₁ tk₁ st₁ rx => ?_)
      refine thenR ((S _ _ _ _ _ _ { s with heap := h₁, toks := tk₁ } _ rfl (c.stays st₁) rm).2.1 hy) fun vy h₂ tk₂ st₂ ry => ?_
      exact wpAny_mono (bin_ok (s := { s with heap := h₂, toks := tk₂ }) (c.stays (st₁.trans st₂)).fresh (rx.stays st₂) ry q) (fun _ _ y => evPost_from (st₁.trans st₂) y) fun _ _ y => y
    refine ⟨wpAny_mono z (fun _ _ y => y.toR) fun _ _ y => y, fun _ => z, fun f ds hd => ?_⟩
    subst hd
    have hop : op = .Add := by cases op <;> first | rfl | cases f
    subst hop
    obtain ⟨la, lb, rfl, rfl, hl, rfl⟩ : ∃ la lb, x = .list la ∧ y = .list lb ∧ (la ++ lb).length ≤ top ∧ ds = la ++ lb := by
      cases x with
      | int i0 => obtain ⟨i, j, _, _, q1⟩ := intsD_eq (f := fun i j => some (.int (i + j))) (a := .int i0) (b := y) (d := .list ds) q; cases q1
      | list la =>
        cases y with
        | list lb => obtain ⟨e1, e2⟩ := mkList_some q; cases e1; exact ⟨_, _, rfl, rfl, e2, rfl⟩
        | _ => exact noSome q
      | _ => exact noSome q
    refine wpAny_BinOp (thenR ((S _ _ _ _ _ _ _ _ rfl c rm).2.1 hx) fun vx h₁ tk₁ st₁ rx => ?_)
    refine thenR ((S _ _ _ _ _ _ { s with heap := h₁, toks := tk₁ } _ rfl (c.stays st₁) rm).2.1 hy) fun vy h₂ tk₂ st₂ ry => ?_
    exact wpAny_mono (addL_ok (s := { s with heap := h₂, toks := tk₂ }) (rx.stays st₂) ry hl) (fun _ _ y => evPostF_from (st₁.trans st₂) y) fun _ _ y => y
  | Compare a ops bs p =>
    rcases ops with _ | ⟨op, _ | ⟨_, _⟩⟩
    · exact noSome q
    · rcases bs with _ | ⟨b, _ | ⟨_, _⟩⟩
      · exact noSome q
      · obtain ⟨hset, q1⟩ := iteN q
        obtain ⟨x, hx, q2⟩ := Option.bind_eq_some_iff.mp q1
        obtain ⟨y, hy, q3⟩ := Option.bind_eq_some_iff.mp q2
        refine .ofV (fun f => by cases f) (wpAny_Compare1 (thenR ((S _ _ _ _ _ _ _ _ rfl c rm).2.1 hx) fun vx h₁ tk₁ st₁ rx => ?_) (noMarks hset))
        refine thenR ((S _ _ _ _ _ _ { s with heap := h₁, toks := tk₁ } _ rfl (c.stays st₁) rm).2.1 hy) fun vy h₂ tk₂ st₂ ry => ?_
        refine wpAny_mono (cmp_ok (s := { s with heap := h₂, toks := tk₂ }) rm (rx.stays st₂) ry q3) (fun v s' zP => ?_) fun _ _ y => y
        obtain ⟨e1, bb, e2, e3⟩ := zP
        subst e1 e2 e3
        exact ⟨h₂, tk₂, rfl, st₁.trans st₂, .bool _⟩
      · exact noSome q
    · exact noSome q
  | IfExp t a b p =>
    obtain ⟨x, hx, q⟩ := Option.bind_eq_some_iff.mp q
    refine .ofV (fun f => by cases f) (wpAny_IfExp (thenT ((S _ _ _ _ _ _ _ _ rfl c rm).2.2 hx) fun bb h₁ tk₁ st₁ e => ?_))
    subst e
    cases bb with
    | true => exact wpAny_mono ((S _ _ _ _ _ _ { s with heap := h₁, toks := tk₁ } _ rfl (c.stays st₁) rm).1 q) (fun _ _ y => evPost_from st₁ y) fun _ _ y => y
    | false => exact wpAny_mono ((S _ _ _ _ _ _ { s with heap := h₁, toks := tk₁ } _ rfl (c.stays st₁) rm).1 q) (fun _ _ y => evPost_from st₁ y) fun _ _ y => y
  | Subscript v i p =>
    by_cases hns : ∃ lo hi st p, i = .Slice lo hi st p
    · obtain ⟨lo, hi, st, p, rfl⟩ := hns
      obtain ⟨x, hx, q⟩ := Option.bind_eq_some_iff.mp q
      obtain ⟨l, hl, q⟩ := Option.bind_eq_some_iff.mp q
      obtain ⟨u, hu, q⟩ := Option.bind_eq_some_iff.mp q
      obtain ⟨t, ht, q⟩ := Option.bind_eq_some_iff.mp q
      exact .ofF c (slice_eval S c rm hx hl hu ht q)
    · replace q : ((r .read env.scope ρ v).bind fun d => (r .value env.scope ρ i).bind fun k => idxD d k) = some d := by
        cases i <;> first | exact q | exact (hns ⟨_, _, _, _, rfl⟩).elim
      obtain ⟨x, hx, q⟩ := Option.bind_eq_some_iff.mp q
      obtain ⟨y, hy, q⟩ := Option.bind_eq_some_iff.mp q
      refine .ofV (fun f => ?_) (Subscript_ (thenR ((S _ _ _ _ _ _ _ _ rfl c rm).2.1 hx) fun vx h₁ tk₁ st₁ rx => ?_))
      · cases i <;> first | exact (hns ⟨_, _, _, _, rfl⟩).elim | cases f
      · refine thenV ((S _ _ _ _ _ _ { s with heap := h₁, toks := tk₁ } _ rfl (c.stays st₁) rm).1 hy) fun vy h₂ tk₂ st₂ ry => ?_
        exact wpAny_mono (idx_ok (s := { s with heap := h₂, toks := tk₂ }) (rx.stays st₂) ry q) (fun _ _ y => evPost_from (st₁.trans st₂) y) fun _ _ y => y
  | List es p =>
    obtain ⟨ds, hds, q⟩ := Option.bind_eq_some_iff.mp q
    obtain ⟨rfl, hl⟩ := mkList_some q
    exact .ofF c ⟨ds, rfl, listDisplay_ok S c rm hds hl⟩
  | Tuple es kd p =>
    obtain ⟨ds, hds, q⟩ := Option.bind_eq_some_iff.mp q
    obtain ⟨hl, q1⟩ := iteS q
    cases q1
    exact .ofV (fun f => by cases f) (tupleDisplay_ok S c rm hds hl)
  | Call f args kws p =>
    obtain ⟨hkw, q⟩ := iteS q
    have hkw := List.isEmpty_iff.mp hkw
    subst hkw
    cases f with
    | Name f fp =>
      obtain ⟨z, f⟩ := evCall_ok (pos := _) (fp := _) S PS T G c rm q
      refine ⟨wpAny_mono z (fun _ _ y => y.toR) fun _ _ y => y, fun _ => z, fun hf ds hd => ?_⟩
      obtain ⟨ds', e', z'⟩ := f (beq_iff_eq.mp hf)
      rw [hd] at e'; cases e'
      exact z'
    | Attribute o m ap =>
      obtain ⟨hb, q1⟩ := iteS q
      rw [Bool.and_eq_true, Bool.and_eq_true] at hb
      have ha := List.isEmpty_iff.mp hb.1.1
      subst ha
      obtain ⟨x, hx, q2⟩ := Option.bind_eq_some_iff.mp q1
      exact .ofV (fun f => by cases f) (case_ok ((S _ _ _ _ _ _ _ _ rfl c rm).1 hx) hb.1.2 hb.2 q2)
    | _ => exact nomatch (show (none : Option PyData) = some d from q)
  | ListComp elt gens scope p => exact .ofF c (comp_ok S G rm c q)
  | _ => exact nomatch (show (none : Option PyData) = some d from q)

theorem evT_ok (S : Snd prog w H0 C k r) (c : Cx C H0 U env ρ s.heap) (rm : Room A k) {e : Expr} {d : PyData} (q : evT r env.scope ρ e = some d) : wpAny (model prog w) A (isTrue e env (eval e env)) (EvPostT s d) NoE s := by
  cases e with
  | BoolOp op es p =>
    obtain ⟨b, hb, rfl⟩ := Option.map_eq_some_iff.mp q
    refine wpAny_isTrue_BoolOp (wpAny_mono (evB_ok S rm _ _ b s c hb) (fun b' s' zP => ?_) fun _ _ y => y)
    obtain ⟨e, h', tk, es, st⟩ := zP
    subst e
    exact ⟨h', tk, es, st, rfl⟩
  | Compare a ops bs p =>
    rcases ops with _ | ⟨op, _ | ⟨_, _⟩⟩
    · exact noSome q
    · rcases bs with _ | ⟨b, _ | ⟨_, _⟩⟩
      · exact noSome q
      · obtain ⟨hset, q1⟩ := iteN q
        obtain ⟨x, hx, q2⟩ := Option.bind_eq_some_iff.mp q1
        obtain ⟨y, hy, q3⟩ := Option.bind_eq_some_iff.mp q2
        obtain ⟨z, hz, q4⟩ := Option.bind_eq_some_iff.mp q3
        obtain ⟨b, hb, rfl⟩ := Option.map_eq_some_iff.mp q4
        refine wpAny_isTrue_Compare1 (thenR ((S _ _ _ _ _ _ _ _ rfl c rm).2.1 hx) fun vx h₁ tk₁ st₁ rx => ?_) (noMarks hset)
        refine thenR ((S _ _ _ _ _ _ { s with heap := h₁, toks := tk₁ } _ rfl (c.stays st₁) rm).2.1 hy) fun vy h₂ tk₂ st₂ ry => ?_
        refine wpAny_mono (cmp_ok (s := { s with heap := h₂, toks := tk₂ }) rm (rx.stays st₂) ry hz) (fun v s' zP => ?_) fun _ _ y => y
        obtain ⟨e1, bb, e2, e3⟩ := zP
        subst e1 e2 e3
        cases hb
        exact wpAny_truthy_bool ⟨h₂, tk₂, rfl, st₁.trans st₂, rfl⟩
      · exact noSome q
    · exact noSome q
  | Name x p =>
    obtain ⟨x, hx, q⟩ := Option.bind_eq_some_iff.mp q
    obtain ⟨b, hb, rfl⟩ := Option.map_eq_some_iff.mp q
    refine wpAny_isTrue_value (thenV ((name_ok (prog := prog) (w := w) (A := A) c hx).2 rfl) fun v h₁ tk₁ st₁ rv => ?_)
    exact truth_ok (s := { s with heap := h₁, toks := tk₁ }) rv hb ⟨h₁, tk₁, rfl, st₁, rfl⟩
  | _ => exact nomatch (show (none : Option PyData) = some d from q)

theorem evStep_ok (S : Snd prog w H0 C k r) (PS : SpecOk prog w mg H0 C Φ k) (T : SortOk prog w srt) (G : Ground0 mg mb H0) : Snd prog w H0 C k (evStep r Φ srt) := by
  intro sc ρ e d env A s U hsc c rm
  subst hsc
  have hk : ∀ {rd : Bool}, (if isFresh e then evV r Φ srt rd env.scope ρ e else (Φ.hook r env.scope ρ e).or (evV r Φ srt rd env.scope ρ e)) = some d → evV r Φ srt rd env.scope ρ e = some d ∨ Φ.hook r env.scope ρ e = some d := fun {rd} q => by
    split at q
    · exact .inl q
    · cases z : Φ.hook r env.scope ρ e with
      | none => rw [z] at q; exact .inl q
      | some d' => rw [z] at q; exact .inr q
  refine ⟨fun q => ?_, fun q => ?_, fun q => evT_ok S c rm q⟩
  · rcases hk q with q | q
    · exact (evV_ok S PS T G c rm q).v rfl
    · exact PS.hook r S ρ e d env A s U q c rm
  · rcases hk q with q | q
    · exact (evV_ok S PS T G c rm q).r
    · exact wpAny_mono (PS.hook r S ρ e d env A s U q c rm) (fun _ _ y => y.toR) fun _ _ y => y

theorem ev_ok (PS : SpecOk prog w mg H0 C Φ k) (T : SortOk prog w srt) (G : Ground0 mg mb H0) : ∀ n, Snd prog w H0 C k (ev Φ srt n)
  | 0 => fun _ _ _ _ _ _ _ _ _ _ _ => ⟨fun q => (nomatch q), fun q => (nomatch q), fun q => (nomatch q)⟩
  | n + 1 => evStep_ok (ev_ok PS T G n) PS T G

theorem evFresh_ok (PS : SpecOk prog w mg H0 C Φ k) (T : SortOk prog w srt) (G : Ground0 mg mb H0) (c : Cx C H0 U env ρ s.heap) (rm : Room A k) {n : Nat} {e : Expr} {ds : List PyData} (q : ev Φ srt n .value env.scope ρ e = some (.list ds)) (hf : isFresh e = true) :
    wpAny (model prog w) A (eval e env) (EvPostF U s ds) NoE s := by
  cases n with
  | zero => cases q
  | succ n =>
    have q' : (if isFresh e then evV (ev Φ srt n) Φ srt false env.scope ρ e else _) = some (.list ds) := q
    rw [if_pos hf] at q'
    exact (evV_ok (ev_ok (C := C) PS T G n) PS T G c rm q').f hf ds rfl
end
end Mine

namespace Mine
open PySem PySem.Calls PySem.Spec PyProof.Rows PySem.W PySem.SeqAt
open AutoSeq1 (wpAny_loadPart')

/-! statements -/
inductive Fl where
  | next | brk | cont
  | ret (d : PyData)

noncomputable def allStr : List PyData → Bool
  | [] => true
  | .str _ :: r => allStr r
  | _ => false
noncomputable def isTheStr (x : Str) : PyData → Bool
  | .str y => y == x
  | _ => false
noncomputable def removeD (ds : List PyData) : PyData → Option (List PyData)
  | .str x => if allStr ds && ds.any (isTheStr x) then some (ds.eraseP (isTheStr x)) else none
  | _ => none

noncomputable def freezeE : Ent → Ent
  | .own ds => .val (.list ds)
  | e => e
noncomputable def freeze (ρ : Rho) : Rho := ρ.map fun p => (p.1, freezeE p.2)

/-- a method of an owned list that gives back nothing -/
noncomputable def listOp (m : Str) (ds : List PyData) (a : PyData) : Option (List PyData) :=
  if m == ("append" : Str) then (if ds.length < top then some (ds ++ [a]) else none)
  else if m == ("extend" : Str) then (match a with | .list es => if ds.length + es.length ≤ top then some (ds ++ es) else none | _ => none)
  else none

section
variable (r : Md → Scope → Rho → Expr → Option PyData) (mu : List Str) (sc : Scope)
noncomputable def forL (body : Rho → Option (Fl × Rho)) (tg : Expr) : List PyData → Rho → Option (Fl × Rho)
  | [], ρ => some (.next, ρ)
  | d :: ds, ρ => (bindD tg d).bind fun b => if b.all fun p => own1 sc p.1 then
      (body (ρ.sets b)).bind fun q => match q.1 with
        | .next => forL body tg ds q.2
        | .cont => forL body tg ds q.2
        | .brk => some (.next, q.2)
        | .ret d => some (.ret d, q.2)
    else none

noncomputable def isComp : Expr → Bool
  | .ListComp .. => true
  | .SetComp .. => true
  | .DictComp .. => true
  | _ => false
noncomputable def isTup : Expr → Bool
  | .Tuple .. => true
  | _ => false

/-- a method's call, read off an expression -/
noncomputable def callOf : Expr → Option (Expr × Str × Pos × List Expr × List Keyword × Pos)
  | .Call f args kws cp => (match f with
    | .Attribute o m ap => some (o, m, ap, args, kws, cp)
    | _ => none)
  | _ => none
theorem callOf_eq {e o : Expr} {m : Str} {ap cp : Pos} {args : List Expr} {kws : List Keyword} (q : callOf e = some (o, m, ap, args, kws, cp)) : e = .Call (.Attribute o m ap) args kws cp := by
  cases e with
  | Call f a b c =>
    cases f with
    | Attribute o' m' ap' => cases q; rfl
    | _ => exact noSome q
  | _ => exact noSome q
noncomputable def ownOf? : Option Ent → Option (List PyData)
  | some (.own ds) => some ds
  | _ => none
theorem ownOf?_eq {o : Option Ent} {ds : List PyData} (q : ownOf? o = some ds) : o = some (.own ds) := by
  cases o with
  | none => exact noSome q
  | some e =>
    cases e with
    | own ds => cases q; rfl
    | _ => exact noSome q
noncomputable def exTup (ρ : Rho) (t e : Expr) : Option (Fl × Rho) := if isTup e then none else (r .value sc ρ e).bind fun d => (bindD t d).bind fun b => if b.all fun q => own1 sc q.1 then some (.next, ρ.sets b) else none
noncomputable def exAsg (ρ : Rho) (t e : Expr) : Option (Fl × Rho) := match t with
  | .Name x _ => if own1 sc x then
      (if mu.contains x then (if isFresh e then (r .value sc ρ e).bind fun d => match d with | .list ds => some (.next, ρ.set x (.own ds)) | _ => none else none)
      else (r .value sc ρ e).bind fun d => some (.next, ρ.set x (.val d)))
    else none
  | .Tuple es k p => exTup r sc ρ (.Tuple es k p) e
  | _ => none
noncomputable abbrev arg1 := one1
theorem arg1_eq {l : List Expr} {a : Expr} (q : arg1 l = some a) : l = [a] := one1_eq q
noncomputable def exExpr (ρ : Rho) (e : Expr) : Option (Fl × Rho) := (callOf e).bind fun c => if c.2.2.2.2.1.isEmpty && (c.2.2.1.endLine == c.2.2.2.2.2.line) then (arg1 c.2.2.2.1).bind fun a => if isStar a then none else (nameOfE c.1).bind fun x => (ownOf? (look sc ρ x)).bind fun ds =>
    (r .value sc ρ a).bind fun d => (listOp c.2.1 ds d).bind fun ds' => some (.next, ρ.set x (.own ds'))
  else none
noncomputable def ex1 (rs : List Stmt → Rho → Option (Fl × Rho)) (ρ : Rho) : Stmt → Option (Fl × Rho)
  | .Assign ts e _ => (match ts with
    | [t] => exAsg r mu sc ρ t e
    | _ => none)
  | .Expr e _ => exExpr r sc ρ e
  | .If t body orelse _ => (r .truth sc ρ t).bind fun d => match d with
      | .bool true => rs body ρ
      | .bool false => rs orelse ρ
      | _ => none
  | .For tg it body orelse _ => if orelse.isEmpty then (itemsD r sc ρ it).bind fun items => forL sc (rs body) tg items ρ else none
  | .Return v _ => v.bind fun e => (r .value sc (freeze ρ) e).bind fun d => some (.ret d, freeze ρ)
  | _ => none
/-- statements of other kinds, ahead of the evaluator's own rules -/
noncomputable abbrev SHook := (Md → Scope → Rho → Expr → Option PyData) → Scope → Rho → Stmt → Option (Fl × Rho)
noncomputable def exL (sh : SHook) (rs : List Stmt → Rho → Option (Fl × Rho)) : List Stmt → Rho → Option (Fl × Rho)
  | [], ρ => some (.next, ρ)
  | st :: rest, ρ => ((sh r sc ρ st).or (ex1 r mu sc rs ρ st)).bind fun q => match q.1 with
      | .next => exL sh rs rest q.2
      | f => some (f, q.2)
noncomputable def exs (sh : SHook) : Nat → List Stmt → Rho → Option (Fl × Rho)
  | 0, _, _ => none
  | n + 1, l, ρ => exL r mu sc sh (exs sh n) l ρ
end

/-! the mutators' rules -/
theorem list_extendW (l b : Addr) (items items2 : Array Value) (n n2 : Nat) (dd2 : Option Addr) (sl2 : Array (Option Value)) (hc0 : ¬(!items.isEmpty && Builtin.List.listTooLong (items.size + items2.size)) = true) (hc1 : items.size ≤ sizeLine) (hs2 : items.size + items2.size ≤ sizeLine + 1) :
    Meets (Builtin.«list.extend» ⟨[.ref l, .ref b], []⟩) (fun _ R s => s.heap.get? l = some { cls := .type "list", dict := none, data := .seq items n, slots := #[] } ∧ s.heap.get? b = some { cls := .type "list", dict := dd2, data := .seq items2 n2, slots := sl2 } ∧ R (.ok (.ret Value.none)) { s with heap := s.heap.update l (Obj.mapSeq fun x => x ++ items2), toks := s.toks }) :=
  .of_wp fun prog w A R s h => by
    obtain ⟨hp, g, d, tk, os⟩ := s; obtain ⟨hl, hb, h⟩ := h; have f1 := AutoSeq1.idx_int; have f2 := AutoSeq1.sub_tuple_tuple; have f3 := AutoSeq1.sub_list_list; have f4 := AutoSeq1.sub_tuple_list; have f5 := AutoSeq1.sub_list_tuple;
    have hz' : (items ++ items2).size ≤ sizeLine + 1 := by rw [Array.size_append]; exact hs2
    wp_walk using (wpAny_updateSeq hl rfl (hz := hc1) (_hz' := hz')), wpAny_loadPart' hl, wpAny_loadPart' hb; exact ⟨_, rfl, h⟩

theorem mapSeq_lst (vs : List Value) (n : Nat) (f : Array Value → Array Value) : ∃ n', Obj.mapSeq f (lst vs n) = lst (f vs.toArray).toList n' := ⟨_, by unfold Obj.mapSeq; simp; rfl⟩
end Mine

namespace Mine
open PySem PySem.Calls PySem.Spec PyProof.Rows PySem.W PySem.SeqAt

section
variable {prog : Program} {w : World} {A : Around} {s : Shared} {env : Env} {C : Cls} {H0 : Heap} {P P' U : Addr → Prop} {B B' : Addr → Option Obj} {own : Str → Bool} {X X' : List (Str × Addr)} {ρ ρ' : Rho} {h h' : Heap} {k : Nat} {mg mb : Str → Option Value}

theorem EntS.monoU {U U' : Addr → Prop} {x : Str} {v : Value} {ent : Ent} (m : ∀ a, U a → U' a) (e : EntS C B U X h x v ent) : EntS C B U' X h x v ent := by
  cases ent with
  | val d => exact Rep.mono m e
  | own ds => obtain ⟨a, vs, n, e1, e2, e3, r⟩ := e; exact ⟨a, vs, n, e1, e2, e3, r.mono m⟩
  | slf ds => obtain ⟨y9, dx, hs9, tk9, a9, e1, e2, e3, r⟩ := e; exact ⟨y9, dx, hs9, tk9, a9, e1, e2, e3, r.mono m⟩
  | kwd => exact e
  | hdr ds => obtain ⟨y, dx, hs, tk, a, vs, n, e1, e2, e3, e4, e5, r⟩ := e; exact ⟨y, dx, hs, tk, a, vs, n, e1, e2, e3, e4, e5, r.mono m⟩

theorem St.monoP (t : St C H0 P B env own X ρ h) (m : ∀ a, P a → P' a) : St C H0 P' B env own X ρ h :=
  { t with fresh := fun b e => m b (t.fresh b e), xp := fun p hp => m _ (t.xp p hp), vars := fun x ent e => let ⟨v, hv, he⟩ := t.vars x ent e; ⟨v, hv, he.monoU fun a u => ⟨m a u.1, u.2⟩⟩ }

theorem rep_avoid {U : Addr → Prop} {v : Value} {d : PyData} {J : Addr} (x : Rep U h v d) (n : h.get? J = none) : Rep (fun b => U b ∧ b ≠ J) h v d := by
  obtain ⟨as, r, u⟩ := x
  exact ⟨as, r, fun a m => ⟨u a m, fun q => by obtain ⟨o, ho⟩ := repAll_new.reads_alloc r a m; rw [q, n] at ho; cases ho⟩⟩
theorem repAll_avoid {U : Addr → Prop} {vs : List Value} {ds : List PyData} {J : Addr} (x : RepAll U h vs ds) (n : h.get? J = none) : RepAll (fun b => U b ∧ b ≠ J) h vs ds := by
  obtain ⟨as, r, u⟩ := x
  exact ⟨as, r, fun a m => ⟨u a m, fun q => by obtain ⟨o, ho⟩ := repAll_new.readsAll_alloc r a m; rw [q, n] at ho; cases ho⟩⟩

/-- what stood ahead does not reach what was made since -/
theorem St.avoid (t : St C H0 P B env own X ρ h) {J : Addr} (n : h.get? J = none) (st : Stays h h') (hJ : ∃ o, h'.get? J = some o) : St C H0 (fun b => P b ∧ b ≠ J) B env own X ρ h' := by
  have base : ∀ x ent, look env.scope ρ x = some ent → ∃ v, VarHas h env x v ∧ EntS C B (UU (fun b => P b ∧ b ≠ J) env X) X h x v ent := fun x ent e => by
    obtain ⟨v, hv, he⟩ := t.vars x ent e
    refine ⟨v, hv, ?_⟩
    have up : ∀ a, (UU P env X a ∧ a ≠ J) → UU (fun b => P b ∧ b ≠ J) env X a := fun a ⟨u, q⟩ => ⟨⟨u.1, q⟩, u.2⟩
    cases ent with
    | val d => exact (rep_avoid he n).mono up
    | own ds => obtain ⟨a, vs, n', e1, e2, e3, r⟩ := he; exact ⟨a, vs, n', e1, e2, e3, (repAll_avoid r n).mono up⟩
    | slf ds => obtain ⟨y9, dx, hs9, tk9, a9, e1, e2, e3, r⟩ := he; exact ⟨y9, dx, hs9, tk9, a9, e1, e2, e3, (rep_avoid r n).mono up⟩
    | kwd => exact he
    | hdr ds => obtain ⟨y, dx, hs, tk, a, vs, n', e1, e2, e3, e4, e5, r⟩ := he; exact ⟨y, dx, hs, tk, a, vs, n', e1, e2, e3, e4, e5, (repAll_avoid r n).mono up⟩
  have t' := t.stays st
  refine { t' with fresh := fun b e => ⟨t'.fresh b e, fun q => by obtain ⟨o, ho⟩ := hJ; rw [q, ho] at e; cases e⟩, xp := fun p hp => ⟨t.xp p hp, fun q => by obtain ⟨_, _, vs, n', ho⟩ := t.xs p hp; rw [q, n] at ho; cases ho⟩, vars := fun x ent e => ?_ }
  obtain ⟨v, hv, he⟩ := base x ent e
  refine ⟨v, hv.stays st, ?_⟩
  cases ent with
  | val d => exact Rep.stays st he
  | own ds => obtain ⟨a, vs, n', e1, e2, e3, r⟩ := he; exact ⟨a, vs, n', e1, e2, st _ _ e3, r.stays st⟩
  | slf ds => obtain ⟨y9, dx, hs9, tk9, a9, e1, e2, e3, r⟩ := he; exact ⟨y9, dx, hs9, tk9, a9, e1, e2, e3, r.stays st⟩
  | kwd => exact he
  | hdr ds => obtain ⟨y, dx, hs, tk, a, vs, n', e1, e2, e3, e4, e5, r⟩ := he; exact ⟨y, dx, hs, tk, a, vs, n', e1, e2, e3, e4, st _ _ e5, r.stays st⟩

/-- a dict that nothing names may change -/
theorem St.junk (t : St C H0 P B env own X ρ h) {J : Addr} {m : Str → Option Value} (hm : h.Ns J m) (hp : ¬ P J) (hb : B J = none) (hL : J ≠ env.locals) (hs : Heap.SameBut J h h') : St C H0 (fun b => P b ∨ b = J) B env own X ρ h' := by
  obtain ⟨oJ, es, ep, hoJ, hdJ, _⟩ := id hm
  have ne : ∀ a o, h.get? a = some o → (∀ es n, o.data ≠ .dict es n) → a ≠ J := fun a o e z q => by rw [q, hoJ] at e; cases e; exact z _ _ hdJ
  have cell : ∀ c u, h.IsCell c u → h'.IsCell c u := fun c u i => i.sameBut hs (by obtain ⟨o, ho, hd⟩ := i; exact ne c o ho fun _ _ q => by rw [hd] at q; cases q)
  have D : Dead (UU P env X) h J := ⟨noTup_dict hm, .inl fun q => hp q.1⟩
  have nsk : ∀ m, h.Ns env.locals m → h'.Ns env.locals m := fun m i => i.sameBut hs (Ne.symm hL)
  have lst' : ∀ a vs n, h.get? a = some (lst vs n) → h'.get? a = some (lst vs n) := fun a vs n e => (hs.2 a (ne _ _ e fun _ _ q => by cases q)).trans e
  refine { fn := t.fn, gl := t.gl, bl := t.bl, h0 := t.h0, base := fun c o e => (hs.2 c fun q => by rw [q, hb] at e; cases e).trans (t.base c o e), fresh := ?_, ns := let ⟨m, q⟩ := t.ns; ⟨m, nsk m q⟩, bL := t.bL, mine := ?_, apart := t.apart, cells := t.cells, isCell := fun y c e => let ⟨v, i⟩ := t.isCell y c e; ⟨v, cell _ _ i⟩, xs := ?_, xp := fun p hp => .inl (t.xp p hp), xnd := t.xnd, xfn := t.xfn, vars := ?_ }
  · intro b e
    by_cases q : b = J
    · exact .inr q
    · exact .inl (t.fresh b (by rw [← hs.2 b q]; exact e))
  · exact fun y hy => (t.mine y hy).imp id fun ⟨hk, c, v, hc, hi, hb⟩ => ⟨hk, c, v, hc, cell _ _ hi, hb⟩
  · intro p hp
    obtain ⟨c, d, vs2, n2, e⟩ := t.xs p hp
    exact ⟨c, d, vs2, n2, lst' _ _ _ e⟩
  · intro y ent e
    obtain ⟨v, hv, he⟩ := t.vars y ent e
    refine ⟨v, ?_, ?_⟩
    · rcases hv with ⟨hk, m, q, e⟩ | ⟨hk, c, e, i⟩
      · exact .inl ⟨hk, m, nsk m q, e⟩
      · exact .inr ⟨hk, c, e, cell _ _ i⟩
    · have up : ∀ a, UU P env X a → UU (fun b => P b ∨ b = J) env X a := fun a u => ⟨.inl u.1, u.2⟩
      cases ent with
      | val d => exact (Rep.dead D hs he).mono up
      | own ds => obtain ⟨b, vs2, n2, e1, e2, e3, rr⟩ := he; exact ⟨b, vs2, n2, e1, e2, lst' _ _ _ e3, (rr.dead D hs).mono up⟩
      | slf ds => obtain ⟨y9, dx, hs9, tk9, a9, e1, e2, e3, r⟩ := he; exact ⟨y9, dx, hs9, tk9, a9, e1, e2, e3, (Rep.dead D hs r).mono up⟩
      | kwd => exact he
      | hdr ds => obtain ⟨z, dx, hh, tk, b, vs2, n2, e1, e2, e3, e4, e5, rr⟩ := he; exact ⟨z, dx, hh, tk, b, vs2, n2, e1, e2, e3, e4, lst' _ _ _ e5, (rr.dead D hs).mono up⟩

/-- a list made anew, stored: the name owns it -/
theorem store_own (t : St C H0 (fun b => P b ∧ b ≠ a) B env own X ρ s.heap) {x : Str} {vs : List Value} {n : Nat} {ds : List PyData} (hx : own x = true) (ha : s.heap.get? a = some (lst vs n)) (hb : B a = none) (hL : a ≠ env.locals) (hX : ∀ p ∈ X, p.2 ≠ a) (hP : P a)
    (hr : RepAll (UU (fun b => P b ∧ b ≠ a) env X) s.heap vs ds) :
    wpAny (model prog w) A (storeName env x (.ref a)) (fun _ s' => ∃ h' tk, s' = { s with heap := h', toks := tk } ∧ St C H0 P B env own ((x, a) :: dropX X x) (ρ.set x (.own ds)) h' ∧ KeepO env s.heap h') NoE s := by
  refine store_raw t hx fun h' tk b hs hb' ⟨ob, hob⟩ hcl hbk hns hmine hvx hvy => ?_
  have hD : Dead (UU (fun b => P b ∧ b ≠ a) env X) s.heap b := by
    rcases hbk with rfl | ⟨u, hi⟩
    · obtain ⟨m, n⟩ := t.ns; exact ⟨noTup_dict n, .inl fun q => q.2.1 rfl⟩
    · exact ⟨noTup_cell hi, .inr ⟨u, hi⟩⟩
  have keep : ∀ c o, s.heap.get? c = some o → (∃ xs n, o.data = .seq xs n) ∨ B c = some o → h'.get? c = some o := fun c o e kk => (hs.2 c fun q => by
    rcases kk with ⟨xs, n, kk⟩ | kk
    · rcases hbk with rfl | ⟨u, o', ho', hd'⟩
      · obtain ⟨m, o', es, ep, ho', hd', _⟩ := t.ns
        rw [q, ho'] at e; cases e; rw [hd'] at kk; cases kk
      · rw [q, ho'] at e; cases e; rw [hd'] at kk; cases kk
    · rw [q, hb'] at kk; cases kk).trans e
  have up : ∀ c, UU (fun b => P b ∧ b ≠ a) env X c → UU P env ((x, a) :: dropX X x) c := fun c u => ⟨u.1.1, u.2.1, fun p hp => by
    rcases List.mem_cons.mp hp with rfl | hp
    · exact Ne.symm u.1.2
    · exact u.2.2 p (mem_dropX.mp hp).1⟩
  refine ⟨h', tk, rfl, { fn := t.fn, gl := t.gl, bl := t.bl, h0 := t.h0, base := fun a o e => keep a o (t.base a o e) (.inr e), fresh := fun c e => (t.fresh c ?_).1, ns := hns, bL := t.bL, mine := hmine, apart := t.apart, cells := t.cells, isCell := fun x c e => let ⟨v, i⟩ := t.isCell x c e; hcl c v i, xs := ?_, xp := ?_, xnd := ?_, xfn := ?_, vars := ?_ }, ?_⟩
  · by_cases hcb : c = b
    · subst hcb; rw [e] at hob; cases hob
    · rw [← hs.2 c hcb]; exact e
  · intro p hp
    rcases List.mem_cons.mp hp with rfl | hp
    · exact ⟨hb, hL, vs, n, keep _ _ ha (.inl ⟨_, _, rfl⟩)⟩
    · obtain ⟨a', b', vs', n', e⟩ := t.xs p (mem_dropX.mp hp).1
      exact ⟨a', b', vs', n', keep _ _ e (.inl ⟨_, _, rfl⟩)⟩
  · intro p hp
    rcases List.mem_cons.mp hp with rfl | hp
    · exact hP
    · exact (t.xp p (mem_dropX.mp hp).1).1
  · intro p hp q hq e
    rcases List.mem_cons.mp hp with rfl | hp <;> rcases List.mem_cons.mp hq with rfl | hq
    · rfl
    · exact absurd e.symm (hX q (mem_dropX.mp hq).1)
    · exact absurd e (hX p (mem_dropX.mp hp).1)
    · exact t.xnd p (mem_dropX.mp hp).1 q (mem_dropX.mp hq).1 e
  · intro p hp q hq e
    rcases List.mem_cons.mp hp with rfl | hp <;> rcases List.mem_cons.mp hq with rfl | hq
    · rfl
    · exact absurd e.symm (mem_dropX.mp hq).2
    · exact absurd e (mem_dropX.mp hp).2
    · exact t.xfn p (mem_dropX.mp hp).1 q (mem_dropX.mp hq).1 e
  · intro y ent e
    rcases look_set e with ⟨rfl, rfl⟩ | ⟨hy, e⟩
    · exact ⟨_, hvx, a, vs, n, rfl, List.mem_cons_self, keep _ _ ha (.inl ⟨_, _, rfl⟩), (hr.dead hD hs).mono up⟩
    · obtain ⟨u, hu, he⟩ := t.vars y ent e
      refine ⟨u, hvy y u hy hu, ?_⟩
      cases ent with
      | val d' => exact (Rep.dead hD hs he).mono up
      | own ds => obtain ⟨a', vs, n, e1, e2, e3, r⟩ := he; exact ⟨a', vs, n, e1, List.mem_cons_of_mem _ (mem_dropX.mpr ⟨e2, hy⟩), keep _ _ e3 (.inl ⟨_, _, rfl⟩), (r.dead hD hs).mono up⟩
      | slf ds => obtain ⟨y9, dx, hs9, tk9, a9, e1, e2, e3, r⟩ := he; exact ⟨y9, dx, hs9, tk9, a9, e1, e2, e3, (Rep.dead hD hs r).mono up⟩
      | kwd => exact he
      | hdr ds =>
        obtain ⟨y', dx, hs', tk', a', vs, n, e1, e2, e3, e4, e5, r⟩ := he
        exact ⟨y', dx, hs', tk', a', vs, n, e1, e2, e3, List.mem_cons_of_mem _ (mem_dropX.mpr ⟨e4, hy⟩), keep _ _ e5 (.inl ⟨_, _, rfl⟩), (r.dead hD hs).mono up⟩
  · intro c o e n1 n2
    refine (hs.2 c fun q => ?_).trans e
    rcases hbk with z | ⟨u, o', ho', hd'⟩
    · exact n1 (q.trans z)
    · rw [q, ho'] at e; cases e; exact n2 _ hd'
end
end Mine

namespace Mine
open PySem PySem.Calls PySem.Spec PyProof.Rows PySem.W PySem.SeqAt

section
variable {prog : Program} {w : World} {A : Around} {s : Shared} {env : Env} {C : Cls} {H0 : Heap} {P P' U : Addr → Prop} {B B' : Addr → Option Obj} {own : Str → Bool} {X X' : List (Str × Addr)} {ρ ρ' : Rho} {h h' : Heap} {k : Nat} {mg mb : Str → Option Value}
variable {Φ : Tab} {srt : PyData → Option PyData}

noncomputable def FlIs (U : Addr → Prop) (h : Heap) : Flow → Fl → Prop
  | .next, .next => True
  | .brk, .brk => True
  | .cont, .cont => True
  | .ret v, .ret d => Rep U h v d
  | _, _ => False

inductive ExPost (C : Cls) (H0 : Heap) (P : Addr → Prop) (B : Addr → Option Obj) (env : Env) (own : Str → Bool) (s : Shared) (fl : Fl) (ρ' : Rho) (f : Flow) (s' : Shared) : Prop
  | mk (B' : Addr → Option Obj) (X' : List (Str × Addr)) (h' : Heap) (tk : Nat) (e : s' = { s with heap := h', toks := tk }) (sub : ∀ a o, B a = some o → B' a = some o) (t : St C H0 P B' env own X' ρ' h') (fl : FlIs (UU P env X') h' f fl)

theorem exPost_from {h' : Heap} {tk : Nat} {fl : Fl} {f : Flow} {s' : Shared} (sub : ∀ a o, B a = some o → B' a = some o) (x : ExPost C H0 P B' env own { s with heap := h', toks := tk } fl ρ' f s') : ExPost C H0 P B env own s fl ρ' f s' := by
  obtain ⟨B2, X2, h2, tk2, e, sub2, t, fl⟩ := x
  exact ⟨B2, X2, h2, tk2, e, fun a o z => sub2 a o (sub a o z), t, fl⟩

theorem var_but {x : Str} {v : Value} {a : Addr} (hs : Heap.SameBut a h h') (hL : a ≠ env.locals) (ha : ∃ vs n, h.get? a = some (lst vs n)) (hv : VarHas h env x v) : VarHas h' env x v := by
  rcases hv with ⟨hk, m, q, e⟩ | ⟨hk, c, e, i⟩
  · exact .inl ⟨hk, m, q.sameBut hs (Ne.symm hL), e⟩
  · refine .inr ⟨hk, c, e, i.sameBut hs fun q => ?_⟩
    obtain ⟨vs, n, ha⟩ := ha
    obtain ⟨o, ho, hd⟩ := i
    rw [q, ha] at ho; cases ho; cases hd

theorem St.setOwn (t : St C H0 P B env own X ρ h) {x : Str} {a : Addr} {vs' : List Value} {n' : Nat} {ds' : List PyData} (hv : VarHas h env x (.ref a)) (hx : (x, a) ∈ X) (hs : Heap.SameBut a h h') (ho : h'.get? a = some (lst vs' n')) (hr : RepAll (UU P env X) h vs' ds') :
    St C H0 P B env own X (ρ.set x (.own ds')) h' := by
  obtain ⟨hb, hL, vs, n, ha⟩ := t.xs _ hx
  obtain ⟨lv, t'⟩ := t.mutX hx hs ho
  refine { t' with vars := fun y ent e => ?_ }
  rcases look_set e with ⟨rfl, rfl⟩ | ⟨hy, e⟩
  · exact ⟨_, var_but hs hL ⟨vs, n, ha⟩ hv, a, vs', n', rfl, hx, ho, lv.all hr⟩
  · refine t'.vars y ent ?_
    unfold look at e ⊢
    replace e := iteS e
    obtain ⟨c, e⟩ := e
    rw [if_pos c]
    exact lookup_keep hy e

theorem swapsWith_other {e : Expr} {t : Option Expr} {line : Nat} (h : isComp e = false) : swapsWith e t line env = pure false := by
  cases e <;> first | rfl | cases h
theorem fresh_allocU (c : Cx C H0 U env ρ h) {a : Addr} (e : h.get? a = none) : U a := c.fresh a e

/-- x = e, a value -/
theorem assign_val (PS : SpecOk prog w mg H0 C Φ k) (T : SortOk prog w srt) (G : Ground0 mg mb H0) (rm : Room A k) (t : St C H0 P B env own X ρ s.heap) {n : Nat} {x : Str} {xp pos : Pos} {e : Expr} {d : PyData} (hx : own x = true) (q : ev Φ srt n .value env.scope ρ e = some d) :
    wpAny (model prog w) A (exec (.Assign [.Name x xp] e pos) env) (ExPost C H0 P B env own s .next (ρ.set x (.val d))) NoE s := by
  have plain : swapsWith e (some (.Name x xp)) pos.line env = pure false → wpAny (model prog w) A (exec (.Assign [.Name x xp] e pos) env) (ExPost C H0 P B env own s .next (ρ.set x (.val d))) NoE s := fun hs => by
    refine wpAny_Assign_Name (thenV ((ev_ok (C := C) PS T G n _ _ _ _ _ _ _ _ rfl t.cx rm).1 q) fun v h' tk st rp => ?_) hs
    refine wpAny_mono (store_val (s := { s with heap := h', toks := tk }) (t.stays st) hx rp) (fun _ s' zP => ?_) fun _ _ z => z
    obtain ⟨h2, tk2, e2, _, _, t2, _⟩ := zP
    exact ⟨B, _, h2, tk2, e2, fun _ _ z => z, t2, trivial⟩
  cases hc : isComp e with
  | false => exact plain (swapsWith_other hc)
  | true =>
    cases n with
    | zero => cases q
    | succ n =>
      cases e <;> try (cases hc; done)
      · rename_i elt gens scope cpos
        have key : ∃ b : Bool, swapsWith (.ListComp elt gens scope cpos) (some (.Name x xp)) pos.line env = pure b := ⟨_, rfl⟩
        obtain ⟨b, hb⟩ := key
        cases b with
        | false => exact plain hb
        | true =>
          have q' : evComp (ev Φ srt n) env.scope ρ elt gens scope = some d := q
          obtain ⟨ds, rfl, core⟩ := comp_core (pos := cpos) (p := firstIterPos gens cpos) (ev_ok (C := C) PS T G n) G rm t.cx q'
          rw [exec_Assign_Name_used _ _ _ _ hb]
          refine wpAny_bind (wpAny_standAt (wpAny_bind ?_))
          rw [arm_evalThenUse_ListComp]
          refine wpAny_bind (core (some (assign (.Name x xp) env)) _ fun h' tk D L vs n' cd => ?_)
          show wpAny _ _ (assign (.Name x xp) env (.ref D)) _ _ _
          obtain ⟨m, hm⟩ := cd.ns
          obtain ⟨oL, hoL⟩ : ∃ o, h'.get? L = some o := let ⟨o, _, _, ho, _⟩ := hm; ⟨o, ho⟩
          have t1 := t.avoid cd.nL cd.st ⟨oL, hoL⟩
          have hLL : L ≠ env.locals := fun z => by obtain ⟨m', o, es, ep, ho, _⟩ := t.ns; rw [← z, cd.nL] at ho; cases ho
          have hDU : UU (fun b => P b ∧ b ≠ L) env X D := ⟨⟨t.fresh D cd.nD, cd.ne⟩, (fun z => by obtain ⟨m', o, es, ep, ho, _⟩ := t.ns; rw [← z, cd.nD] at ho; cases ho), (fun p hp z => by obtain ⟨_, _, vs', n', ho⟩ := t.xs p hp; rw [z, cd.nD] at ho; cases ho)⟩
          have rD : Rep (UU (fun b => P b ∧ b ≠ L) env X) h' (.ref D) (.list ds) := .list ⟨_, cd.hD, rfl, _, rfl⟩ (cd.rep.mono fun b u => ⟨⟨u.1.1, u.2.1⟩, u.1.2⟩) hDU
          have hbL : B L = none := by
            cases z : B L with
            | none => rfl
            | some o => have := t.base L o z; rw [cd.nL] at this; cases this
          refine wpAny_assign_Name (wpAny_mono (store_val (s := { s with heap := h', toks := tk }) t1 hx rD) (fun _ s' zP => ?_) fun _ _ z => z)
          obtain ⟨h2, tk2, e2, _, _, t2, ko⟩ := zP
          subst e2
          have hm2 : h2.Ns L m := by
            obtain ⟨o, es, ep, ho, hd, rr⟩ := hm
            exact ⟨o, es, ep, ko L o ho hLL (fun v z => by rw [hd] at z; cases z), hd, rr⟩
          refine ⟨m, hm2, fun h3 hs3 => wpAny_pure (wpAny_pure ?_)⟩
          have t3 := (t2.junk hm2 (fun z => z.2 rfl) hbL hLL hs3).monoP (P' := P) fun b z => z.elim (fun y => y.1) fun y => y ▸ t.fresh L cd.nL
          exact ⟨B, _, h3, tk2, rfl, fun _ _ z => z, t3, trivial⟩
      · cases q
      · cases q

/-- x = e, a list made anew: x owns it -/
theorem assign_own (PS : SpecOk prog w mg H0 C Φ k) (T : SortOk prog w srt) (G : Ground0 mg mb H0) (rm : Room A k) (t : St C H0 P B env own X ρ s.heap) {n : Nat} {x : Str} {xp pos : Pos} {e : Expr} {ds : List PyData} (hx : own x = true) (hf : isFresh e = true) (q : ev Φ srt n .value env.scope ρ e = some (.list ds)) :
    wpAny (model prog w) A (exec (.Assign [.Name x xp] e pos) env) (ExPost C H0 P B env own s .next (ρ.set x (.own ds))) NoE s := by
  have noB : ∀ a, s.heap.get? a = none → B a = none := fun a e => by
    cases z : B a with
    | none => rfl
    | some o => have := t.base a o z; rw [e] at this; cases this
  have noL : ∀ a, s.heap.get? a = none → a ≠ env.locals := fun a e z => by obtain ⟨m', o, es, ep, ho, _⟩ := t.ns; rw [← z, e] at ho; cases ho
  have noX : ∀ a, s.heap.get? a = none → ∀ p ∈ X, p.2 ≠ a := fun a e p hp z => by obtain ⟨_, _, vs', n', ho⟩ := t.xs p hp; rw [z, e] at ho; cases ho
  have plain : swapsWith e (some (.Name x xp)) pos.line env = pure false → wpAny (model prog w) A (exec (.Assign [.Name x xp] e pos) env) (ExPost C H0 P B env own s .next (ρ.set x (.own ds))) NoE s := fun hs => by
    refine wpAny_Assign_Name (wpAny_mono (evFresh_ok (C := C) PS T G t.cx rm q hf) (fun v s' zP => ?_) fun _ _ z => z) hs
    obtain ⟨h', tk, a, vs, n', e', st, ev, na, ha, rr⟩ := zP
    subst e' ev
    have t1 := t.avoid na st ⟨_, ha⟩
    refine wpAny_mono (store_own (s := { s with heap := h', toks := tk }) t1 hx ha (noB a na) (noL a na) (noX a na) (t.fresh a na) (rr.mono fun b u => ⟨⟨u.1.1, u.2⟩, u.1.2⟩)) (fun _ s' zP => ?_) fun _ _ z => z
    obtain ⟨h2, tk2, e2, t2, _⟩ := zP
    exact ⟨B, _, h2, tk2, e2, fun _ _ z => z, t2, trivial⟩
  cases hc : isComp e with
  | false => exact plain (swapsWith_other hc)
  | true =>
    cases n with
    | zero => cases q
    | succ n =>
      cases e <;> try (cases hc; done)
      · rename_i elt gens scope cpos
        have key : ∃ b : Bool, swapsWith (.ListComp elt gens scope cpos) (some (.Name x xp)) pos.line env = pure b := ⟨_, rfl⟩
        obtain ⟨b, hb⟩ := key
        cases b with
        | false => exact plain hb
        | true =>
          have q' : evComp (ev Φ srt n) env.scope ρ elt gens scope = some (.list ds) := q
          obtain ⟨ds', e', core⟩ := comp_core (pos := cpos) (p := firstIterPos gens cpos) (ev_ok (C := C) PS T G n) G rm t.cx q'
          cases e'
          rw [exec_Assign_Name_used _ _ _ _ hb]
          refine wpAny_bind (wpAny_standAt (wpAny_bind ?_))
          rw [arm_evalThenUse_ListComp]
          refine wpAny_bind (core (some (assign (.Name x xp) env)) _ fun h' tk D L vs n' cd => ?_)
          show wpAny _ _ (assign (.Name x xp) env (.ref D)) _ _ _
          obtain ⟨m, hm⟩ := cd.ns
          obtain ⟨oL, hoL⟩ : ∃ o, h'.get? L = some o := let ⟨o, _, _, ho, _⟩ := hm; ⟨o, ho⟩
          have t0 := t.avoid cd.nL (Stays.refl _ |>.trans cd.st) ⟨oL, hoL⟩
          have t1 : St C H0 (fun b => (P b ∧ b ≠ L) ∧ b ≠ D) B env own X ρ h' := by
            have z := (t.avoid cd.nD cd.st ⟨_, cd.hD⟩)
            refine { t0 with fresh := fun b e => ⟨t0.fresh b e, (z.fresh b e).2⟩, xp := fun p hp => ⟨t0.xp p hp, (z.xp p hp).2⟩, vars := fun y ent e => ?_ }
            obtain ⟨v, hv, he⟩ := t.vars y ent e
            refine ⟨v, hv.stays cd.st, ?_⟩
            have up : ∀ a, ((UU P env X a ∧ a ≠ L) ∧ a ≠ D) → UU (fun b => (P b ∧ b ≠ L) ∧ b ≠ D) env X a := fun a u => ⟨⟨⟨u.1.1.1, u.1.2⟩, u.2⟩, u.1.1.2⟩
            cases ent with
            | val d => exact (Rep.stays cd.st (rep_avoid (rep_avoid he cd.nL) cd.nD)).mono up
            | own ds => obtain ⟨a, vs, n', e1, e2, e3, r⟩ := he; exact ⟨a, vs, n', e1, e2, cd.st _ _ e3, (RepAll.stays cd.st (repAll_avoid (repAll_avoid r cd.nL) cd.nD)).mono up⟩
            | slf ds => obtain ⟨y9, dx, hs9, tk9, a9, e1, e2, e3, r⟩ := he; exact ⟨y9, dx, hs9, tk9, a9, e1, e2, e3, (Rep.stays cd.st (rep_avoid (rep_avoid r cd.nL) cd.nD)).mono up⟩
            | kwd => exact he
            | hdr ds => obtain ⟨y', dx, hs, tk', a, vs, n', e1, e2, e3, e4, e5, r⟩ := he; exact ⟨y', dx, hs, tk', a, vs, n', e1, e2, e3, e4, cd.st _ _ e5, (RepAll.stays cd.st (repAll_avoid (repAll_avoid r cd.nL) cd.nD)).mono up⟩
          refine wpAny_assign_Name (wpAny_mono (store_own (P := fun b => P b ∧ b ≠ L) (s := { s with heap := h', toks := tk }) t1 hx cd.hD (noB D cd.nD) (noL D cd.nD) (noX D cd.nD) ⟨t.fresh D cd.nD, cd.ne⟩ (cd.rep.mono fun b u => ⟨⟨⟨u.1.1, u.2.1⟩, u.2.2⟩, u.1.2⟩)) (fun _ s' zP => ?_) fun _ _ z => z)
          obtain ⟨h2, tk2, e2, t2, ko⟩ := zP
          subst e2
          have hm2 : h2.Ns L m := by
            obtain ⟨o, es, ep, ho, hd, rr⟩ := hm
            exact ⟨o, es, ep, ko L o ho (noL L cd.nL) (fun v z => by rw [hd] at z; cases z), hd, rr⟩
          refine ⟨m, hm2, fun h3 hs3 => wpAny_pure (wpAny_pure ?_)⟩
          have t3 := (t2.junk hm2 (fun z => z.2 rfl) (noB L cd.nL) (noL L cd.nL) hs3).monoP (P' := P) fun b z => z.elim (fun y => y.1) fun y => y ▸ t.fresh L cd.nL
          exact ⟨B, _, h3, tk2, rfl, fun _ _ z => z, t3, trivial⟩
      · cases q
      · cases q
end
end Mine

namespace Mine
open PySem PySem.Calls PySem.Spec PyProof.Rows PySem.W PySem.SeqAt

section
variable {prog : Program} {w : World} {A : Around} {s : Shared} {env : Env} {C : Cls} {H0 : Heap} {P P' U : Addr → Prop} {B B' : Addr → Option Obj} {own : Str → Bool} {X X' : List (Str × Addr)} {ρ ρ' : Rho} {h h' : Heap} {k : Nat} {mg mb : Str → Option Value}
variable {Φ : Tab} {srt : PyData → Option PyData}

theorem inter_false (h : env.scope.kind = .function) : interactive env = false := by unfold interactive; rw [h]; rfl

theorem upd_lst {h : Heap} {a : Addr} {vs : List Value} {n : Nat} (ha : h.get? a = some (lst vs n)) (f : Array Value → Array Value) : ∃ n', (h.update a (Obj.mapSeq f)).get? a = some (lst (f vs.toArray).toList n') := by
  obtain ⟨n', e⟩ := mapSeq_lst vs n f
  exact ⟨n', by rw [Heap.get?_update_self _ ha (by rw [e]; rfl), e]⟩

theorem listOp_ok (PS : SpecOk prog w mg H0 C Φ k) (T : SortOk prog w srt) (G : Ground0 mg mb H0) (rm : Room A k) (t : St C H0 P B env own X ρ s.heap) {n : Nat} {x m : Str} {xp ap cp pos : Pos} {a : Expr} {d : PyData} {ds ds' : List PyData} (hl : (ap.endLine == cp.line) = true) (hst : isStar a = false)
    (hx : look env.scope ρ x = some (.own ds)) (q : ev Φ srt n .value env.scope ρ a = some d) (e : listOp m ds d = some ds') :
    wpAny (model prog w) A (exec (.Expr (.Call (.Attribute (.Name x xp) m ap) [a] [] cp) pos) env) (ExPost C H0 P B env own s .next (ρ.set x (.own ds'))) NoE s := by
  obtain ⟨v, hv, ad, vs, n0, rfl, hX, ha, rr⟩ := t.vars x _ hx
  obtain ⟨_, hd, _⟩ := look_ok hx
  have hbt : backTo cp (starEach [a] env) = [(false, eval a env)] := by rw [star_cons hst]; rfl
  refine wpAny_Expr (wpAny_Call_method_lateS rfl (by rw [hbt]; rfl) hl (wpAny_Name (load_ok t.fn hx hv ?_) hd)) (inter_false t.fn) rfl
  rw [hbt]
  -- what is behind the argument
  have fin : ∀ (f : Array Value → Array Value) (h' : Heap) (tk : Nat), Stays s.heap h' → RepAll (UU P env X) h' (f vs.toArray).toList ds' →
      ExPost C H0 P B env own s .next (ρ.set x (.own ds')) .next { s with heap := h'.update ad (Obj.mapSeq f), toks := tk } := fun f h' tk st r' => by
    have ha' := st _ _ ha
    obtain ⟨n', hn'⟩ := upd_lst ha' f
    exact ⟨B, X, _, tk, rfl, fun _ _ z => z, (t.stays st).setOwn (hv.stays st) hX (Heap.SameBut.update ..) hn' r', trivial⟩
  unfold listOp at e
  split at e
  · rename_i hm
    have hm := beq_iff_eq.mp hm
    subst hm
    replace e := iteS e
    obtain ⟨hlen, e⟩ := e
    cases e
    refine ⟨"list", "list.append", PySem.F.plainAttrs_list, PySem.F.slot_list_append, PySem.F.type_list_append, ⟨_, ha, rfl⟩, fun a' e' => by cases e'; exact ⟨_, ha, rfl⟩, PySem.P.append_list ?_⟩
    refine thenV ((ev_ok (C := C) PS T G n _ _ _ _ _ _ _ _ rfl t.cx rm).1 q) fun v' h' tk st rp => ?_
    refine ⟨vs.toArray, n0, ?_, st _ _ ha, fin (fun xs => xs.push v') h' tk st ?_⟩
    · rw [List.size_toArray, rr.length]; exact Nat.le_trans (Nat.le_of_lt hlen) top_le
    · simpa using (rr.stays st).append (.cons rp .nil)
  · split at e
    · rename_i hm
      have hm := beq_iff_eq.mp hm
      subst hm
      cases d <;> simp only [reduceCtorEq] at e
      rename_i es
      replace e := iteS e
      obtain ⟨hlen, e⟩ := e
      cases e
      refine ⟨"list", "list.extend", PySem.F.plainAttrs_list, PySem.F.slot_list_extend, PySem.F.type_list_extend, ⟨_, ha, rfl⟩, fun a' e' => by cases e'; exact ⟨_, ha, rfl⟩, seqMethod1_meets PySem.F.slot_list_extend PySem.F.entry_list_extend ?_⟩
      refine thenV ((ev_ok (C := C) PS T G n _ _ _ _ _ _ _ _ rfl t.cx rm).1 q) fun v' h' tk st rp => ?_
      obtain ⟨b, ws, rfl, ⟨⟨cls, dd, data, sl⟩, hob, hcb, n2, hdb⟩, rw', ub⟩ := rp.listInv
      simp only at hcb hdb
      subst hcb hdb
      have hsz : vs.toArray.size + ws.toArray.size ≤ sizeLine := by
        rw [List.size_toArray, List.size_toArray, rr.length, rw'.length]; exact Nat.le_trans hlen top_le
      refine ⟨⟨_, st _ _ ha, rfl⟩, PySem.F.args_list_extend_2 _ _, _, list_extendW ad b vs.toArray ws.toArray n0 n2 dd sl ?_ (by omega) (by omega), st _ _ ha, hob, ?_⟩
      · unfold Builtin.List.listTooLong
        simp only [Bool.and_eq_true, decide_eq_true_eq, not_and]
        intro _; omega
      · exact fin (fun xs => xs ++ ws.toArray) h' tk st (by simpa using (rr.stays st).append rw')
    · cases e
end
end Mine

namespace Mine
open PySem PySem.Calls PySem.Spec PyProof.Rows PySem.W PySem.SeqAt

section
variable {prog : Program} {w : World} {A : Around} {s : Shared} {env : Env} {C : Cls} {H0 : Heap} {P P' U : Addr → Prop} {B B' : Addr → Option Obj} {own : Str → Bool} {X X' : List (Str × Addr)} {ρ ρ' : Rho} {h h' : Heap} {k : Nat} {mg mb : Str → Option Value}
variable {Φ : Tab} {srt : PyData → Option PyData}

theorem Assign_Tuple0 {es : List Expr} {kk : Nat} {tp pos : Pos} {e : Expr} {Q : Flow → Shared → Prop} {E : Value → Shared → Prop} (ht : isTup e = false)
    (h : wpAny (model prog w) A (eval e env) (fun v s₁ => wpAny (model prog w) A (assign (.Tuple es kk tp) env v) (fun _ => Q .next) E s₁) E s) : wpAny (model prog w) A (exec (.Assign [.Tuple es kk tp] e pos) env) Q E s := by
  refine Assign_Tuple h ?_ ?_
  · cases e <;> first | rfl | cases ht
  · cases e <;> first | rfl | cases ht

theorem assign_tup (PS : SpecOk prog w mg H0 C Φ k) (T : SortOk prog w srt) (G : Ground0 mg mb H0) (rm : Room A k) (t : St C H0 P B env own X ρ s.heap) {n : Nat} {es : List Expr} {kk : Nat} {tp pos : Pos} {e : Expr} {d : PyData} {b : List (Str × PyData)} (ht : isTup e = false)
    (q : ev Φ srt n .value env.scope ρ e = some d) (hb : bindD (.Tuple es kk tp) d = some b) (ho : b.all (fun p => own p.1) = true) :
    wpAny (model prog w) A (exec (.Assign [.Tuple es kk tp] e pos) env) (ExPost C H0 P B env own s .next (ρ.sets b)) NoE s := by
  refine Assign_Tuple0 ht (thenV ((ev_ok (C := C) PS T G n _ _ _ _ _ _ _ _ rfl t.cx rm).1 q) fun v h₁ tk₁ st₁ rv => ?_)
  refine wpAny_mono (bind_ok (s := { s with heap := h₁, toks := tk₁ }) (t.stays st₁) rm.handled hb ho rv) (fun _ s' zP => ?_) fun _ _ z => z
  obtain ⟨h2, tk2, e2, _, _, t2⟩ := zP
  exact ⟨B, _, h2, tk2, e2, fun _ _ z => z, t2, trivial⟩

end
end Mine

namespace Mine
open PySem PySem.Calls PySem.Spec PyProof.Rows PySem.W PySem.SeqAt

section
variable {prog : Program} {w : World} {A : Around} {s : Shared} {env : Env} {C : Cls} {H0 : Heap} {P P' U : Addr → Prop} {B B' : Addr → Option Obj} {own : Str → Bool} {X X' : List (Str × Addr)} {ρ ρ' : Rho} {h h' : Heap} {k : Nat} {mg mb : Str → Option Value}
variable {Φ : Tab} {srt : PyData → Option PyData}

noncomputable def isHdrE : Option Ent → Bool
  | some (.hdr _) => true
  | _ => false
theorem lookup_freeze (ρ : Rho) (x : Str) : (freeze ρ).lookup x = (ρ.lookup x).map freezeE := by
  unfold freeze
  induction ρ with
  | nil => rfl
  | cons p r ih =>
    obtain ⟨z, e⟩ := p
    rw [List.map_cons, List.lookup_cons, List.lookup_cons]
    cases x == z with
    | true => rfl
    | false => exact ih
theorem look_freeze {sc : Scope} {x : Str} {ent : Ent} (e : look sc (freeze ρ) x = some ent) : ∃ e0, look sc ρ x = some e0 ∧ ent = freezeE e0 := by
  unfold look at e ⊢
  replace e := iteS e
  obtain ⟨c, e⟩ := e
  rw [if_pos c]
  rw [lookup_freeze] at e
  obtain ⟨e0, h0, h1⟩ := Option.map_eq_some_iff.mp e
  exact ⟨e0, h0, h1.symm⟩

/-- owned lists become plain values -/
theorem St.freeze (t : St C H0 P B env own X ρ h) : ∃ X', St C H0 P B env own X' (freeze ρ) h := by
  let f : Str × Addr → Bool := fun p => isHdrE (look env.scope ρ p.1)
  have sub : ∀ p, p ∈ X.filter f → p ∈ X := fun p hp => (List.mem_filter.mp hp).1
  have up : ∀ a, UU P env X a → UU P env (X.filter f) a := fun a u => ⟨u.1, u.2.1, fun p hp => u.2.2 p (sub p hp)⟩
  refine ⟨X.filter f, { t with xs := fun p hp => t.xs p (sub p hp), xp := fun p hp => t.xp p (sub p hp), xnd := fun p hp q hq => t.xnd p (sub p hp) q (sub q hq), xfn := fun p hp q hq => t.xfn p (sub p hp) q (sub q hq), vars := fun x ent e => ?_ }⟩
  obtain ⟨e0, h0, rfl⟩ := look_freeze e
  obtain ⟨v, hv, he⟩ := t.vars x e0 h0
  refine ⟨v, hv, ?_⟩
  cases e0 with
  | val d => exact Rep.mono up he
  | own ds =>
    obtain ⟨a, vs, n, rfl, hx, ha, r⟩ := he
    refine Rep.list ⟨_, ha, rfl, n, rfl⟩ (r.mono up) ⟨t.xp _ hx, (t.xs _ hx).2.1, fun p hp q => ?_⟩
    have e1 := t.xnd p (sub p hp) _ hx q
    have e2 := (List.mem_filter.mp hp).2
    simp only [f] at e2
    rw [e1, h0] at e2
    cases e2
  | slf ds => obtain ⟨y9, dx, hs9, tk9, a9, e1, e2, e3, r⟩ := he; exact ⟨y9, dx, hs9, tk9, a9, e1, e2, e3, r.mono up⟩
  | kwd => exact he
  | hdr ds =>
    obtain ⟨y, dx, hs, tk, a, vs, n, e1, e2, e3, e4, e5, r⟩ := he
    refine ⟨y, dx, hs, tk, a, vs, n, e1, e2, e3, List.mem_filter.mpr ⟨e4, ?_⟩, e5, r.mono up⟩
    simp only [f]; rw [h0]; rfl

/-- what is to be shown of a block -/
noncomputable def BlockOk (prog : Program) (w : World) (A : Around) (C : Cls) (H0 : Heap) (P : Addr → Prop) (env : Env) (own : Str → Bool) (l : List Stmt) (f : Rho → Option (Fl × Rho)) : Prop :=
  ∀ (ρ : Rho) (fl : Fl) (ρ' : Rho) (B : Addr → Option Obj) (X : List (Str × Addr)) (s : Shared), f ρ = some (fl, ρ') → St C H0 P B env own X ρ s.heap →
    wpAny (model prog w) A (execs l env) (ExPost C H0 P B env own s fl ρ') NoE s

/-- a list made anew, for what may look it up -/
noncomputable def SndF (prog : Program) (w : World) (H0 : Heap) (C : Cls) (k : Nat) (r : Md → Scope → Rho → Expr → Option PyData) : Prop := ∀ (ρ : Rho) (e : Expr) (ds : List PyData) (env : Env) (A : Around) (s : Shared) (U : Addr → Prop), Cx C H0 U env ρ s.heap → Room A k → isFresh e = true →
  r .value env.scope ρ e = some (.list ds) → wpAny (model prog w) A (eval e env) (EvPostF U s ds) NoE s
/-- the statements' hook is sound -/
noncomputable def StmtOk (prog : Program) (w : World) (C : Cls) (H0 : Heap) (k : Nat) (sh : SHook) : Prop := ∀ (r : Md → Scope → Rho → Expr → Option PyData), Snd prog w H0 C k r → SndF prog w H0 C k r →
  ∀ (ρ ρ' : Rho) (st : Stmt) (fl : Fl) (env : Env) (A : Around) (s : Shared) (P : Addr → Prop) (B : Addr → Option Obj) (X : List (Str × Addr)),
  sh r env.scope ρ st = some (fl, ρ') → St C H0 P B env (own1 env.scope) X ρ s.heap → Room A k → wpAny (model prog w) A (exec st env) (ExPost C H0 P B env (own1 env.scope) s fl ρ') NoE s
theorem StmtOk.none : StmtOk prog w C H0 k (fun _ _ _ _ => Option.none) := fun _ _ _ _ _ _ _ _ _ _ _ _ _ q => nomatch q

theorem ret_ok (PS : SpecOk prog w mg H0 C Φ k) (T : SortOk prog w srt) (G : Ground0 mg mb H0) (rm : Room A k) (t : St C H0 P B env own X ρ s.heap) {n : Nat} {e : Expr} {pos : Pos} {d : PyData} (q : ev Φ srt n .value env.scope (freeze ρ) e = some d) :
    wpAny (model prog w) A (exec (.Return (some e) pos) env) (ExPost C H0 P B env own s (.ret d) (freeze ρ)) NoE s := by
  obtain ⟨X', t'⟩ := t.freeze
  refine wpAny_Return_some (thenV ((ev_ok (C := C) PS T G n _ _ _ _ _ _ _ _ rfl t'.cx rm).1 q) fun v h₁ tk₁ st₁ rv => ?_)
  exact ⟨B, X', h₁, tk₁, rfl, fun _ _ z => z, t'.stays st₁, rv⟩

theorem if_ok (PS : SpecOk prog w mg H0 C Φ k) (T : SortOk prog w srt) (G : Ground0 mg mb H0) (rm : Room A k) (t : St C H0 P B env own X ρ s.heap) {n : Nat} {e : Expr} {body orelse : List Stmt} {pos : Pos} {b : Bool} {fl : Fl} {f : List Stmt → Rho → Option (Fl × Rho)} (q : ev Φ srt n .truth env.scope ρ e = some (.bool b))
    (hb : BlockOk prog w A C H0 P env own body (f body)) (ho : BlockOk prog w A C H0 P env own orelse (f orelse)) (qf : (if b then f body ρ else f orelse ρ) = some (fl, ρ')) :
    wpAny (model prog w) A (exec (.If e body orelse pos) env) (ExPost C H0 P B env own s fl ρ') NoE s := by
  refine wpAny_If (thenT ((ev_ok (C := C) PS T G n _ _ _ _ _ _ _ _ rfl t.cx rm).2.2 q) fun b' h₁ tk₁ st₁ e => ?_)
  cases e
  cases b with
  | true => exact wpAny_mono (hb ρ fl ρ' B X { s with heap := h₁, toks := tk₁ } qf (t.stays st₁)) (fun _ _ z => exPost_from (fun _ _ z => z) z) fun _ _ z => z
  | false => exact wpAny_mono (ho ρ fl ρ' B X { s with heap := h₁, toks := tk₁ } qf (t.stays st₁)) (fun _ _ z => exPost_from (fun _ _ z => z) z) fun _ _ z => z

inductive LoopInv (C : Cls) (H0 : Heap) (P : Addr → Prop) (B : Addr → Option Obj) (env : Env) (own : Str → Bool) (s : Shared) (Q : Rho → (Addr → Option Obj) → List (Str × Addr) → Heap → Prop) (s₁ : Shared) : Prop
  | mk (ρ1 : Rho) (B1 : Addr → Option Obj) (X1 : List (Str × Addr)) (h : Heap) (tk : Nat) (e : s₁ = { s with heap := h, toks := tk }) (sub : ∀ a o, B a = some o → B1 a = some o) (t : St C H0 P B1 env own X1 ρ1 h) (q : Q ρ1 B1 X1 h)
inductive ForInv (env : Env) (P : Addr → Prop) (f : Rho → Option (Fl × Rho)) (tg : Expr) (fl : Fl) (ρ' : Rho) (all : List PyData) (I : Addr) (K : Option (List Value)) (Sv : Nat → Heap → Prop) (fp : List Addr) (m : Nat) (ρ1 : Rho) (B1 : Addr → Option Obj) (X1 : List (Str × Addr)) (h : Heap) : Prop
  | mk (i : Nat) (em : m = all.length - i) (hi : i ≤ all.length) (hq : forL env.scope f tg (all.drop i) ρ1 = some (fl, ρ')) (hI : B1 I = none) (sv : Sv i h) (vl : ValsAt K all (UU P env X1) h) (hU : ∀ b ∈ fp, b ≠ I → UU P env X1 b)
set_option maxHeartbeats 1000000 in
theorem for_ok (PS : SpecOk prog w mg H0 C Φ k) (T : SortOk prog w srt) (G : Ground0 mg mb H0) (rm : Room A k) (t : St C H0 P B env (own1 env.scope) X ρ s.heap) {n : Nat} {tg ie : Expr} {body : List Stmt} {pos : Pos} {fl : Fl} {f : Rho → Option (Fl × Rho)} {all : List PyData}
    (hb : BlockOk prog w A C H0 P env (own1 env.scope) body f) (qi : itemsD (ev Φ srt n) env.scope ρ ie = some all) (q : forL env.scope f tg all ρ = some (fl, ρ')) :
    wpAny (model prog w) A (exec (.For tg ie body [] pos) env) (ExPost C H0 P B env (own1 env.scope) s fl ρ') NoE s := by
  obtain ⟨hf, hw⟩ := itemsD_ok (ev_ok (C := C) PS T G n) G rm t.cx qi
  refine wpAny_For (wpAny_mono hw (fun x s₁ h₁ => wpAny_mono h₁ (fun it s₂ h₂ => ?_) fun _ _ z => z) fun _ _ z => z) hf
  obtain ⟨h0, tk0, I, fp, K, Pv, Sv, rfl, st, rfl, it, s0, vl, hn, hU⟩ := h₂
  have t0 := t.stays st
  have hBI : B I = none := by
    cases z : B I with
    | none => rfl
    | some o => have := t.base I o z; rw [hn] at this; cases this
  have hHI : H0.get? I = none := by
    cases z : H0.get? I with
    | none => rfl
    | some o => have := t.h0 I o z; rw [hBI] at this; cases this
  have hPI : P I := t.fresh I hn
  refine codeAny_forLoop_any (fun m s₁ => LoopInv C H0 P B env (own1 env.scope) s (ForInv env P f tg fl ρ' all I K Sv fp m) s₁) ?_ all.length
    ⟨ρ, B, X, h0, tk0, rfl, fun _ _ z => z, t0, 0, rfl, Nat.zero_le _, q, hBI, s0, vl, hU⟩
  rintro m s₁ ⟨ρ1, B1, X1, h1, tk1, rfl, sub, t1, i, rfl, hi, hq, hbI, sv, vl1, hU1⟩
  obtain ⟨o, fs, T', ho, hd, _⟩ := it.flds _ _ sv
  by_cases hlt : i < all.length
  · refine it.W.item i { s with heap := h1, toks := tk1 } _ _ hlt sv fun v h₂ tk₂ pv sv₂ kp => ?_
    rw [List.drop_eq_getElem_cons hlt] at hq
    unfold forL at hq
    obtain ⟨b, hbd, hq⟩ := Option.bind_eq_some_iff.mp hq
    split at hq
    rotate_left
    · cases hq
    rename_i hown
    obtain ⟨⟨fl1, ρ2⟩, hf1, hq⟩ := Option.bind_eq_some_iff.mp hq
    obtain ⟨lv, t2⟩ := t1.ext ho hd hbI (fun b o hb e => kp b o (by simpa using hb) e) hPI
    have vl2 := vl1.liv lv
    obtain ⟨d', hd', rv⟩ := it.val hlt pv vl2
    rw [List.getElem?_eq_getElem hlt] at hd'; cases hd'
    obtain ⟨o₂, fs₂, T₂, ho₂, hd₂, hc₂, hT₂⟩ := it.flds _ _ sv₂
    refine lot_ok (s := { s with heap := h₂, toks := tk₂ }) ho₂ hd₂ hc₂ hT₂ ?_
    obtain ⟨sub2, ti2⟩ := t2.inflate
    refine wpAny_mono (bind_ok (s := { s with heap := h₂, toks := tk₂ }) ti2 rm.handled hbd hown rv) (fun _ s₃ zP => ?_) fun _ _ z => z.elim
    obtain ⟨h₃, tk₃, e₃, lv₃, kl₃, t3⟩ := zP
    subst e₃
    have sv₃ : Sv (i + 1) h₃ := it.keep t2 hU1 sv₂ fun a o e => t3.base a o e
    have vl3 : ValsAt K all (UU P env (dropXs X1 b)) h₃ := by
      have := vl2.liv lv₃
      cases K with
      | some vs => exact RepAll.mono (fun _ u => uu_drops b u) this
      | none => exact this
    have hU3 : ∀ c ∈ fp, c ≠ I → UU P env (dropXs X1 b) c := fun c hc hcI => uu_drops b (hU1 c hc hcI)
    obtain ⟨sub3, ti3⟩ := t3.inflate
    refine wpAny_mono (hb (ρ1.sets b) fl1 ρ2 _ _ { s with heap := h₃, toks := tk₃ } hf1 ti3) (fun g s₄ zP => ?_) fun _ _ z => z.elim
    obtain ⟨B4, X4, h₄, tk₄, e₄, sub₄, t4, hfl⟩ := zP
    subst e₄
    have subAll : ∀ a o, B1 a = some o → B4 a = some o := fun a o z => sub₄ a o (sub3 a o (sub2 a o z))
    have again : forL env.scope f tg (all.drop (i + 1)) ρ2 = some (fl, ρ') → ∃ m, m < all.length - i ∧ LoopInv C H0 P B env (own1 env.scope) s (ForInv env P f tg fl ρ' all I K Sv fp m) { s with heap := h₄, toks := tk₄ } := by
      intro hq
      have sv₄ : Sv (i + 1) h₄ := it.keep t3 hU3 sv₃ fun a o e => t4.base a o (sub₄ a o e)
      obtain ⟨o₄, fs₄, T₄, ho₄, hd₄, _⟩ := it.flds _ _ sv₄
      refine ⟨all.length - (i + 1), by omega, ρ2, hideB B4 I, X4, h₄, tk₄, rfl, fun a o z => ?_, t4.hide ho₄ hd₄ hHI, i + 1, rfl, hlt, hq, by unfold hideB; rw [if_pos rfl], sv₄, vl3.frz t3 t4 sub₄, fun c hc hcI => ?_⟩
      · unfold hideB
        rw [if_neg fun y => by rw [y, hBI] at z; cases z]
        exact subAll a o (sub a o z)
      · obtain ⟨oc, vs, nn, hoc, hdc⟩ := it.seqs _ _ sv₃ c hc hcI
        have u := hU3 c hc hcI
        have := sub₄ c oc (frz_of hoc (t3.seqNotMut hoc (.inl ⟨_, _, hdc⟩) (.inl u)))
        exact ⟨u.1, u.2.1, fun p hp y => by rw [← y, (t4.xs p hp).1] at this; cases this⟩
    have sub' : ∀ a o, B a = some o → B4 a = some o := fun a o z => subAll a o (sub a o z)
    cases g <;> cases fl1 <;> first | exact hfl.elim | skip
    · exact again hq
    · cases hq; exact ⟨B4, X4, h₄, tk₄, rfl, sub', t4, trivial⟩
    · exact again hq
    · cases hq; exact ⟨B4, X4, h₄, tk₄, rfl, sub', t4, hfl⟩
  · have : i = all.length := by omega
    subst this
    refine it.W.done { s with heap := h1, toks := tk1 } _ _ sv fun h₂ tk₂ kp => ?_
    rw [List.drop_length] at hq
    cases hq
    obtain ⟨lv, t2⟩ := t1.ext ho hd hbI (fun b o hb e => kp b o (by simpa using hb) e) hPI
    exact wpAny_execs_nil ⟨B1, X1, h₂, tk₂, rfl, sub, t2, trivial⟩
end
end Mine

namespace Mine
open PySem PySem.Calls PySem.Spec PyProof.Rows PySem.W PySem.SeqAt

section
variable {prog : Program} {w : World} {A : Around} {s : Shared} {env : Env} {C : Cls} {H0 : Heap} {P P' U : Addr → Prop} {B B' : Addr → Option Obj} {own : Str → Bool} {X X' : List (Str × Addr)} {ρ ρ' : Rho} {h h' : Heap} {k : Nat} {mg mb : Str → Option Value}
variable {Φ : Tab} {srt : PyData → Option PyData} {mu : List Str} {N : Nat} {sh : SHook}

/-- a statement does what the evaluator says -/
noncomputable def Runs (prog : Program) (w : World) (A : Around) (C : Cls) (H0 : Heap) (P : Addr → Prop) (B : Addr → Option Obj) (env : Env) (s : Shared) (fl : Fl) (ρ' : Rho) (st : Stmt) : Prop :=
  wpAny (model prog w) A (exec st env) (ExPost C H0 P B env (own1 env.scope) s fl ρ') NoE s
theorem exTup_ok (PS : SpecOk prog w mg H0 C Φ k) (T : SortOk prog w srt) (G : Ground0 mg mb H0) (rm : Room A k) (t : St C H0 P B env (own1 env.scope) X ρ s.heap) {es : List Expr} {kk : Nat} {p pos : Pos} {e : Expr} {fl : Fl}
    (q : exTup (ev Φ srt N) env.scope ρ (.Tuple es kk p) e = some (fl, ρ')) : Runs prog w A C H0 P B env s fl ρ' (.Assign [.Tuple es kk p] e pos) := by
  unfold exTup at q
  replace q := iteN q
  have ht := q.1
  obtain ⟨d, hd, q⟩ := Option.bind_eq_some_iff.mp q.2
  obtain ⟨b, hb, q⟩ := Option.bind_eq_some_iff.mp q
  have ho := (iteS q).1
  cases (iteS q).2
  exact assign_tup PS T G rm t (by simpa using ht) hd hb ho
theorem exAsg_ok (PS : SpecOk prog w mg H0 C Φ k) (T : SortOk prog w srt) (G : Ground0 mg mb H0) (rm : Room A k) (t : St C H0 P B env (own1 env.scope) X ρ s.heap) {tg e : Expr} {pos : Pos} {fl : Fl}
    (q : exAsg (ev Φ srt N) mu env.scope ρ tg e = some (fl, ρ')) : Runs prog w A C H0 P B env s fl ρ' (.Assign [tg] e pos) := by
  cases tg with
  | Name x p =>
    replace q := iteS (show (if own1 env.scope x then _ else none) = some (fl, ρ') from q)
    have hx := q.1
    by_cases c : mu.contains x = true
    · have q2 := q.2
      rw [if_pos c] at q2
      have hf := (iteS q2).1
      obtain ⟨d, hd, q3⟩ := Option.bind_eq_some_iff.mp (iteS q2).2
      cases d with
      | list ds =>
        cases q3
        exact assign_own PS T G rm t hx hf hd
      | _ => exact noSome q3
    · have q2 := q.2
      rw [if_neg c] at q2
      obtain ⟨d, hd, q3⟩ := Option.bind_eq_some_iff.mp q2
      cases q3
      exact assign_val PS T G rm t hx hd
  | Tuple es kk p => exact exTup_ok PS T G rm t q
  | _ => exact noSome q
theorem exExpr_ok (PS : SpecOk prog w mg H0 C Φ k) (T : SortOk prog w srt) (G : Ground0 mg mb H0) (rm : Room A k) (t : St C H0 P B env (own1 env.scope) X ρ s.heap) {e : Expr} {pos : Pos} {fl : Fl}
    (q : exExpr (ev Φ srt N) env.scope ρ e = some (fl, ρ')) : Runs prog w A C H0 P B env s fl ρ' (.Expr e pos) := by
  unfold exExpr at q
  obtain ⟨⟨o, m, ap, args, kws, cp⟩, hc, q⟩ := Option.bind_eq_some_iff.mp q
  have he := callOf_eq hc
  replace q := iteS q
  have hl := q.1
  rw [Bool.and_eq_true] at hl
  have h1 := List.isEmpty_iff.mp hl.1
  obtain ⟨a, ha, q2⟩ := Option.bind_eq_some_iff.mp q.2
  have h2 := arg1_eq ha
  dsimp only at h1 h2
  subst he h1 h2
  replace q2 := iteN q2
  have hs := q2.1
  obtain ⟨x, hx, q3⟩ := Option.bind_eq_some_iff.mp q2.2
  obtain ⟨xp, hxp⟩ := nameOfE_eq hx
  dsimp only at hxp
  subst hxp
  obtain ⟨ds, hds, q4⟩ := Option.bind_eq_some_iff.mp q3
  obtain ⟨d, hd, q5⟩ := Option.bind_eq_some_iff.mp q4
  obtain ⟨ds', hds', q6⟩ := Option.bind_eq_some_iff.mp q5
  cases q6
  exact listOp_ok PS T G rm t hl.2 (by simpa using hs) (ownOf?_eq hds) hd hds'

theorem ex1_ok (PS : SpecOk prog w mg H0 C Φ k) (T : SortOk prog w srt) (G : Ground0 mg mb H0) (rm : Room A k) (t : St C H0 P B env (own1 env.scope) X ρ s.heap) {rs : List Stmt → Rho → Option (Fl × Rho)} (hrs : ∀ l, BlockOk prog w A C H0 P env (own1 env.scope) l (rs l)) {st : Stmt} {fl : Fl}
    (q : ex1 (ev Φ srt N) mu env.scope rs ρ st = some (fl, ρ')) : Runs prog w A C H0 P B env s fl ρ' st := by
  cases st with
  | Assign ts e p =>
    rcases ts with _ | ⟨tg, _ | ⟨_, _⟩⟩
    · exact noSome q
    · exact exAsg_ok PS T G rm t q
    · exact noSome q
  | Expr e p => exact exExpr_ok PS T G rm t q
  | If tst body orelse p =>
    obtain ⟨d, hd, q⟩ := Option.bind_eq_some_iff.mp q
    cases d with
    | bool b =>
      refine if_ok PS T G rm t (f := rs) hd (hrs _) (hrs _) ?_
      cases b <;> exact q
    | _ => exact noSome q
  | For tg it body orelse p =>
    replace q := iteS (show (if orelse.isEmpty then _ else none) = some (fl, ρ') from q)
    have ho := List.isEmpty_iff.mp q.1
    obtain ⟨all, hi, q2⟩ := Option.bind_eq_some_iff.mp q.2
    subst ho
    exact for_ok PS T G rm t (hrs _) hi q2
  | Return v p =>
    obtain ⟨e, he, q2⟩ := Option.bind_eq_some_iff.mp q
    subst he
    obtain ⟨d, hd, q3⟩ := Option.bind_eq_some_iff.mp q2
    cases q3
    exact ret_ok PS T G rm t hd
  | _ => exact noSome q

theorem exL_ok (PS : SpecOk prog w mg H0 C Φ k) (T : SortOk prog w srt) (G : Ground0 mg mb H0) (rm : Room A k) (SH : StmtOk prog w C H0 k sh) {rs : List Stmt → Rho → Option (Fl × Rho)} (hrs : ∀ l, BlockOk prog w A C H0 P env (own1 env.scope) l (rs l)) :
    ∀ l, BlockOk prog w A C H0 P env (own1 env.scope) l (exL (ev Φ srt N) mu env.scope sh rs l)
  | [] => fun ρ fl ρ' B X s q t => by
    cases q
    exact wpAny_execs_nil ⟨B, X, s.heap, s.toks, rfl, fun _ _ z => z, t, trivial⟩
  | st :: rest => fun ρ fl ρ' B X s q t => by
    unfold exL at q
    obtain ⟨⟨fl1, ρ1⟩, h1, q⟩ := Option.bind_eq_some_iff.mp q
    have h1' : wpAny (model prog w) A (exec st env) (ExPost C H0 P B env (own1 env.scope) s fl1 ρ1) NoE s := by
      cases z : sh (ev Φ srt N) env.scope ρ st with
      | none => rw [z] at h1; exact ex1_ok PS T G rm t hrs h1
      | some q' => rw [z] at h1; cases h1; exact SH _ (ev_ok PS T G N) (fun _ _ _ _ _ _ _ c rm hf q => evFresh_ok PS T G c rm q hf) ρ ρ1 st fl1 env A s P B X z t rm
    refine wpAny_execs_cons (wpAny_mono h1' (fun g s' x => ?_) fun _ _ z => z)
    have x' := x
    obtain ⟨B1, X1, h₁, tk₁, e₁, sub, t1, hfl⟩ := x
    subst e₁
    cases g <;> cases fl1 <;> first | exact hfl.elim | skip
    · exact wpAny_mono (exL_ok PS T G rm SH hrs rest ρ1 fl ρ' B1 X1 { s with heap := h₁, toks := tk₁ } q t1) (fun _ _ z => exPost_from sub z) fun _ _ z => z
    · cases q; exact x'
    · cases q; exact x'
    · cases q; exact x'

theorem exs_ok (PS : SpecOk prog w mg H0 C Φ k) (T : SortOk prog w srt) (G : Ground0 mg mb H0) (rm : Room A k) (SH : StmtOk prog w C H0 k sh) : ∀ n l, BlockOk prog w A C H0 P env (own1 env.scope) l (exs (ev Φ srt N) mu env.scope sh n l)
  | 0, _ => fun _ _ _ _ _ _ q _ => nomatch q
  | n + 1, l => exL_ok PS T G rm SH (exs_ok PS T G rm SH n) l
end
end Mine

namespace Mine
open PySem PySem.Calls PySem.Spec PyProof.Rows PySem.W PySem.SeqAt

/-- one function's contract at one row of arguments -/
noncomputable def FnOk (prog : Program) (w : World) (mg : Str → Option Value) (H0 : Heap) (k : Nat) (f : Str) (args : List PyData) (d : PyData) : Prop :=
  ∃ a o fd, mg f = some (.ref a) ∧ H0.get? a = some o ∧ o.data = .func fd ∧
  ∀ (A : Around) (s : Shared) (vs : List Value) (as : List Addr), Room A k → Stays H0 s.heap → ReadsAll s.heap vs args as →
    wpAny (model prog w) A (call (.ref a) vs) (fun r s' => ∃ h' tk bs, s' = { s with heap := h', toks := tk } ∧ Stays s.heap h' ∧ Reads h' r d bs ∧ ∀ b ∈ bs, b ∈ as ∨ s.heap.get? b = none) NoE s

/-- a function of the text, found at the top -/
noncomputable def DefAt (mg : Str → Option Value) (H0 : Heap) (f : Str) (ps : Arguments) (body : List Stmt) (sc : Scope) : Prop :=
  ∃ a o pm code doc, mg f = some (.ref a) ∧ H0.get? a = some o ∧ o.data = .func (docDef f ps body sc pm code doc) ∧ H0.CodeRec code f

noncomputable def rho0 (xs : List Str) (args : List PyData) : Rho := (xs.zip args).map fun p => (p.1, .val p.2)
noncomputable def noFree (sc : Scope) : Bool := sc.names.all fun p => !(p.2 == .free)
noncomputable def plainSc (sc : Scope) : Bool := (sc.kind == .function) && !sc.isCoroutine && !sc.isGenerator && noFree sc
noncomputable def distinct : List Str → Bool
  | [] => true
  | x :: r => !r.contains x && distinct r

noncomputable def runB (f : Rho → Option (Fl × Rho)) (xs : List Str) (args : List PyData) : Option PyData :=
  if args.length = xs.length then (match f (rho0 xs args) with
    | some (.ret d, _) => some d
    | some (.next, _) => some .none
    | _ => none) else none
noncomputable def runF (r : Md → Scope → Rho → Expr → Option PyData) (sh : SHook) (mu : List Str) (n : Nat) (xs : List Str) (body : List Stmt) (sc : Scope) (args : List PyData) : Option PyData :=
  if args.length = xs.length then (match exs r mu sc sh n body (rho0 xs args) with
    | some (.ret d, _) => some d
    | some (.next, _) => some .none
    | _ => none) else none

section
variable {prog : Program} {w : World} {A : Around} {s : Shared} {env : Env} {C : Cls} {H0 : Heap} {k : Nat} {mg mb : Str → Option Value}
variable {Φ : Tab} {srt : PyData → Option PyData} {mu : List Str} {N : Nat} {sh : SHook}

theorem FnOk.mono {k' : Nat} {f : Str} {args : List PyData} {d : PyData} (x : FnOk prog w mg H0 k f args d) (h : k ≤ k') : FnOk prog w mg H0 k' f args d := by
  obtain ⟨a, o, fd, e1, e2, e3, g⟩ := x
  exact ⟨a, o, fd, e1, e2, e3, fun A s vs as rm => g A s vs as ⟨rm.handled, by have := rm.depth; omega, by have := rm.units; omega⟩⟩

theorem cells_some {x : Str} : ∀ (names : List (Str × NameKind)) (n : Nat) (acc : List (Str × Addr)), (acc.lookup x).isSome = true ∨ names.lookup x = some .cell → ((cellsFrom n names acc).lookup x).isSome = true
  | [], _, _, h => h.elim id fun z => by cases z
  | (y, kd) :: r, n, acc, h => by
    unfold cellsFrom
    split
    · rename_i hk
      refine cells_some r _ _ ?_
      rw [List.lookup_cons]
      cases hxy : x == y with
      | true => exact .inl rfl
      | false => rw [List.lookup_cons, hxy] at h; exact h
    · rename_i hk
      refine cells_some r _ _ (h.imp id fun z => ?_)
      rw [List.lookup_cons] at z
      cases hxy : x == y with
      | true => rw [hxy] at z; cases z; exact absurd rfl hk
      | false => rw [hxy] at z; exact z

theorem bindL_other {kf : Str → Option NameKind} {x : Str} : ∀ (b : List (Str × Value)) (m : Str → Option Value), (∀ p ∈ b, p.1 ≠ x) → bindL kf b m x = m x
  | [], _, _ => rfl
  | (y, v) :: r, m, h => by
    unfold bindL
    rw [bindL_other r _ fun p hp => h p (List.mem_cons_of_mem _ hp)]
    have : y ≠ x := h _ List.mem_cons_self
    split
    · simp only [if_neg (Ne.symm this)]
    · rfl
theorem bindC_other {kf : Str → Option NameKind} {x : Str} : ∀ (b : List (Str × Value)) (m : Str → Option Value), (∀ p ∈ b, p.1 ≠ x) → bindC kf b m x = m x
  | [], _, _ => rfl
  | (y, v) :: r, m, h => by
    unfold bindC
    rw [bindC_other r _ fun p hp => h p (List.mem_cons_of_mem _ hp)]
    have : y ≠ x := h _ List.mem_cons_self
    split
    · rfl
    · simp only [if_neg (Ne.symm this)]

theorem zip_names {xs : List Str} {vs : List Value} {x : Str} (hx : x ∉ xs) : ∀ p ∈ xs.zip vs, p.1 ≠ x := fun _ hp q => hx (q ▸ (List.of_mem_zip hp).1)
/-- the bound names hold their arguments -/
theorem bound {U : Addr → Prop} {h : Heap} {kf : Str → Option NameKind} {x : Str} {ent : Ent} : ∀ (xs : List Str) (vs : List Value) (args : List PyData) (m cm : Str → Option Value), distinct xs = true → RepAll U h vs args → (rho0 xs args).lookup x = some ent →
    ∃ v d, ent = .val d ∧ Rep U h v d ∧ x ∈ xs ∧ (kf x = some .local → bindL kf (xs.zip vs) m x = some v) ∧ (kf x ≠ some .local → bindC kf (xs.zip vs) cm x = some v)
  | [], _, _, _, _, _, _, e => by cases e
  | _ :: _, _, [], _, _, _, _, e => by cases e
  | _ :: _, [], _ :: _, _, _, _, r, _ => by have := r.length; simp at this
  | y :: xs, v :: vs, d :: args, m, cm, hd, r, e => by
    unfold distinct at hd
    rw [Bool.and_eq_true, Bool.not_eq_true'] at hd
    have e' : (((y, Ent.val d) :: rho0 xs args) : Rho).lookup x = some ent := e
    rw [List.lookup_cons] at e'
    cases hxy : x == y with
    | true =>
      rw [hxy] at e'
      cases e'
      have hx := beq_iff_eq.mp hxy
      subst hx
      have hn : x ∉ xs := fun q => by have := hd.1; rw [List.contains_iff_mem.mpr q] at this; cases this
      refine ⟨v, d, rfl, r.head, List.mem_cons_self, fun hk => ?_, fun hk => ?_⟩
      · show bindL kf ((x, v) :: xs.zip vs) m x = _
        unfold bindL
        rw [bindL_other _ _ (zip_names hn), if_pos hk]
        simp
      · show bindC kf ((x, v) :: xs.zip vs) cm x = _
        unfold bindC
        rw [bindC_other _ _ (zip_names hn), if_neg hk]
        simp
    | false =>
      rw [hxy] at e'
      obtain ⟨v', d', h1, h2, h3, h4, h5⟩ := bound (kf := kf) xs vs args (if kf y = some .local then fun z => if z = y then some v else m z else m) (if kf y = some .local then cm else fun z => if z = y then some v else cm z) hd.2 r.tail e'
      exact ⟨v', d', h1, h2, List.mem_cons_of_mem _ h3, h4, h5⟩

theorem fun_codeB (G : Ground0 mg mb H0) {f : Str} {ps : Arguments} {body : List Stmt} {sc : Scope} (D : DefAt mg H0 f ps body sc) {xs : List Str} {args : List PyData} {d : PyData} {F : Rho → Option (Fl × Rho)} (hB : ∀ (A : Around) (P : Addr → Prop) (env : Env), env.scope = sc → Room A k → BlockOk prog w A C H0 P env (own1 env.scope) body F)
    (hsc : plainSc sc = true) (hxs : distinct xs = true) (hk : xs.all (own1 sc) = true) (hbind : ∀ pm code doc vals, vals.length = xs.length → bindArgs (docDef f ps body sc pm code doc) ⟨vals, []⟩ = pure (xs.zip vals))
    (q : runB F xs args = some d) :
    ∃ a o fd, mg f = some (.ref a) ∧ H0.get? a = some o ∧ o.data = .func fd ∧ ∀ (A : Around) (s : Shared) (vs : List Value) (as : List Addr) (R : Result → Shared → Prop), Room A (k + 1) → Stays H0 s.heap → ReadsAll s.heap vs args as →
      (∀ r h' tk bs, Stays s.heap h' → Reads h' r d bs → (∀ b ∈ bs, b ∈ as ∨ s.heap.get? b = none) → R (.ok (.ret r)) { s with heap := h', toks := tk }) → codeAny (model prog w) A (.call (.ref a) ⟨vs, []⟩) R s := by
  obtain ⟨a, o, pm, code, doc, hm, ho, hd, hc⟩ := D
  refine ⟨a, o, _, hm, ho, hd, fun A s vs as R rm st ra hR => ?_⟩
  unfold plainSc at hsc
  simp only [Bool.and_eq_true, Bool.not_eq_true', beq_iff_eq] at hsc
  obtain ⟨⟨⟨hf, hco⟩, hge⟩, hfree⟩ := hsc
  unfold runB at q
  split at q
  rotate_left
  · cases q
  rename_i hlen
  have hvl : vs.length = args.length := RepAll.length (U := fun _ => True) ⟨as, ra, fun _ _ => trivial⟩
  refine (codeAny_call_cells (by have := rm.depth; omega) (st _ _ ho) hd (G.nolimit.keeps st) (hc.keeps st) rfl (hbind pm code doc vs (by omega)) rfl ?_ (fun s₁ x => ?_) hco hge hf)
  · intro p hp
    have := List.all_eq_true.mp hk p.1 (List.of_mem_zip hp).1
    unfold own1 at this
    show sc.names.lookup p.1 = _ ∨ (sc.names.lookup p.1 = _ ∧ ((cellsFrom _ sc.names []).lookup p.1).isSome = true)
    split at this
    · rename_i h1; exact .inl h1
    · rename_i h1; exact .inr ⟨h1, cells_some _ _ _ (.inr h1)⟩
    · cases this
  · obtain ⟨h1, tk1, e1⟩ := x.toInCall.same
    subst e1
    let env := callEnvC (docDef f ps body sc pm code doc) s.heap.objs.size a
    let P : Addr → Prop := fun b => b ∈ as ∨ s.heap.get? b = none
    have keep : Stays s.heap h1 := x.toInCall.keep
    have r0 : RepAll (UU P env []) s.heap vs args := ⟨as, ra, fun b hb => ⟨.inl hb, fun z => by
      obtain ⟨o', ho'⟩ := repAll_new.readsAll_alloc ra b hb
      have h2 := Heap.lt_size ho'
      have z' : b = s.heap.objs.size := z
      exact Nat.lt_irrefl _ (z' ▸ h2), fun _ hp => nomatch hp⟩⟩
    have t : St C H0 P (fun b => s.heap.get? b) env (own1 env.scope) [] (rho0 xs args) h1 := {
      fn := hf, gl := rfl, bl := rfl, h0 := st, base := keep, fresh := fun b e => .inr (none_of_stays keep e), ns := ⟨_, x.toInCall.ns⟩, bL := new_none _,
      mine := fun y hy => by
        unfold own1 at hy
        split at hy
        · rename_i h1; exact .inl h1
        · rename_i h1
          refine .inr ⟨h1, ?_⟩
          obtain ⟨c, hc⟩ := Option.isSome_iff_exists.mp (cells_some sc.names (s.heap.objs.size + 1) [] (.inr h1))
          refine ⟨c, _, hc, x.cell y c hc, ?_⟩
          have := x.above y c (mem_of_lookup hc)
          cases z : s.heap.get? c with
          | none => rfl
          | some o' =>
            have h2 := Heap.lt_size z
            have h3 : s.heap.objs.size < c := this
            exact absurd (Nat.lt_trans h2 h3) (Nat.lt_irrefl _)
        · cases hy
      apart := fun y z c hy hz _ => name_of_addr x.apart (mem_of_lookup hy) (mem_of_lookup hz)
      cells := fun y hy => by
        rcases hy with hy | hy
        · exact Option.isSome_iff_exists.mp (cells_some sc.names (s.heap.objs.size + 1) [] (.inr hy))
        · have := List.all_eq_true.mp hfree _ (mem_of_lookup hy)
          simp at this
      isCell := fun y c hy => ⟨_, x.cell y c hy⟩
      xs := fun _ hp => nomatch hp
      xp := fun _ hp => nomatch hp
      xnd := fun _ hp => nomatch hp
      xfn := fun _ hp => nomatch hp
      vars := fun y ent e => by
        unfold look at e
        split at e
        rotate_left
        · cases e
        rename_i hv
        obtain ⟨v, d', rfl, rv, hy, hl, hcl⟩ := bound (kf := env.kindOf) (h := s.heap) xs vs args (fun _ => none) (fun _ => none) hxs r0 e
        refine ⟨v, ?_, Rep.stays keep rv⟩
        have := List.all_eq_true.mp hk y hy
        unfold own1 at this
        split at this
        · rename_i h1
          exact .inl ⟨h1, _, x.toInCall.ns, hl h1⟩
        · rename_i h1
          obtain ⟨c, hc⟩ := Option.isSome_iff_exists.mp (cells_some sc.names (s.heap.objs.size + 1) [] (.inr h1))
          refine .inr ⟨.inl h1, c, hc, ?_⟩
          have i := x.cell y c hc
          have h1' : env.kindOf y = some .cell := h1
          rw [hcl (by rw [h1']; intro z; cases z)] at i
          exact i
        · cases this }
    have rm' : Room (A.deeper env) k := ⟨rm.handled, by have := rm.depth; show A.depth + 1 + k < _; omega, by have := rm.units; show A.units + 3 + 200 + 10 * k < _; omega⟩
    have main : ∀ fl ρ', F (rho0 xs args) = some (fl, ρ') → wpAny (model prog w) (A.deeper env) (execs body env) (ExPost C H0 P (fun b => s.heap.get? b) env (own1 env.scope) { s with heap := h1, toks := tk1 } fl ρ') NoE { s with heap := h1, toks := tk1 } := fun fl ρ' e => hB _ P env rfl rm' _ fl ρ' _ [] { s with heap := h1, toks := tk1 } e t
    split at q
    · rename_i d' ρ' he
      cases q
      refine wpAny_mono (main _ _ he) (fun g s' zP => ?_) fun _ _ z => z.elim
      obtain ⟨B2, X2, h2, tk2, e2, sub, t2, fl⟩ := zP
      subst e2
      cases g <;> try exact fl.elim
      obtain ⟨bs, rb, ub⟩ := fl
      exact hR _ h2 tk2 bs (fun b o z => t2.base b o (sub b o z)) rb fun b hb => (ub b hb).1
    · rename_i ρ' he
      cases q
      refine wpAny_mono (main _ _ he) (fun g s' zP => ?_) fun _ _ z => z.elim
      obtain ⟨B2, X2, h2, tk2, e2, sub, t2, fl⟩ := zP
      subst e2
      cases g <;> try exact fl.elim
      exact hR _ h2 tk2 [] (fun b o z => t2.base b o (sub b o z)) .none fun b hb => nomatch hb
    · cases q

theorem fun_okB (G : Ground0 mg mb H0) {f : Str} {ps : Arguments} {body : List Stmt} {sc : Scope} (D : DefAt mg H0 f ps body sc) {xs : List Str} {args : List PyData} {d : PyData} {F : Rho → Option (Fl × Rho)} (hB : ∀ (A : Around) (P : Addr → Prop) (env : Env), env.scope = sc → Room A k → BlockOk prog w A C H0 P env (own1 env.scope) body F)
    (hsc : plainSc sc = true) (hxs : distinct xs = true) (hk : xs.all (own1 sc) = true) (hbind : ∀ pm code doc vals, vals.length = xs.length → bindArgs (docDef f ps body sc pm code doc) ⟨vals, []⟩ = pure (xs.zip vals))
    (q : runB F xs args = some d) : FnOk prog w mg H0 (k + 1) f args d := by
  obtain ⟨a, o, fd, e1, e2, e3, g⟩ := fun_codeB G D hB hsc hxs hk hbind q
  exact ⟨a, o, fd, e1, e2, e3, fun A s vs as rm st ra => wpAny_call (g A s vs as _ rm st ra fun r h' tk bs st' rd hb => ⟨h', tk, bs, rfl, st', rd, hb⟩)⟩
theorem exs_blk (PS : SpecOk prog w mg H0 C Φ k) (T : SortOk prog w srt) (G : Ground0 mg mb H0) (SH : StmtOk prog w C H0 k sh) {body : List Stmt} {sc : Scope} {n : Nat} (A : Around) (P : Addr → Prop) (env : Env) (e : env.scope = sc) (rm : Room A k) :
    BlockOk prog w A C H0 P env (own1 env.scope) body (exs (ev Φ srt N) mu sc sh n body) := by
  subst e
  exact exs_ok PS T G rm SH n body
theorem fun_code (PS : SpecOk prog w mg H0 C Φ k) (T : SortOk prog w srt) (G : Ground0 mg mb H0) (SH : StmtOk prog w C H0 k sh) {f : Str} {ps : Arguments} {body : List Stmt} {sc : Scope} (D : DefAt mg H0 f ps body sc) {xs : List Str} {args : List PyData} {d : PyData} {n : Nat}
    (hsc : plainSc sc = true) (hxs : distinct xs = true) (hk : xs.all (own1 sc) = true) (hbind : ∀ pm code doc vals, vals.length = xs.length → bindArgs (docDef f ps body sc pm code doc) ⟨vals, []⟩ = pure (xs.zip vals))
    (q : runF (ev Φ srt N) sh mu n xs body sc args = some d) :
    ∃ a o fd, mg f = some (.ref a) ∧ H0.get? a = some o ∧ o.data = .func fd ∧ ∀ (A : Around) (s : Shared) (vs : List Value) (as : List Addr) (R : Result → Shared → Prop), Room A (k + 1) → Stays H0 s.heap → ReadsAll s.heap vs args as →
      (∀ r h' tk bs, Stays s.heap h' → Reads h' r d bs → (∀ b ∈ bs, b ∈ as ∨ s.heap.get? b = none) → R (.ok (.ret r)) { s with heap := h', toks := tk }) → codeAny (model prog w) A (.call (.ref a) ⟨vs, []⟩) R s :=
  fun_codeB G D (exs_blk PS T G SH) hsc hxs hk hbind q

theorem fun_ok (PS : SpecOk prog w mg H0 C Φ k) (T : SortOk prog w srt) (G : Ground0 mg mb H0) (SH : StmtOk prog w C H0 k sh) {f : Str} {ps : Arguments} {body : List Stmt} {sc : Scope} (D : DefAt mg H0 f ps body sc) {xs : List Str} {args : List PyData} {d : PyData} {n : Nat}
    (hsc : plainSc sc = true) (hxs : distinct xs = true) (hk : xs.all (own1 sc) = true) (hbind : ∀ pm code doc vals, vals.length = xs.length → bindArgs (docDef f ps body sc pm code doc) ⟨vals, []⟩ = pure (xs.zip vals))
    (q : runF (ev Φ srt N) sh mu n xs body sc args = some d) : FnOk prog w mg H0 (k + 1) f args d := by
  obtain ⟨a, o, fd, e1, e2, e3, g⟩ := fun_code PS T G SH D hsc hxs hk hbind q
  exact ⟨a, o, fd, e1, e2, e3, fun A s vs as rm st ra => wpAny_call (g A s vs as _ rm st ra fun r h' tk bs st' rd hb => ⟨h', tk, bs, rfl, st', rd, hb⟩)⟩
end
end Mine

namespace Mine
open PySem PySem.Calls PySem.Spec PyProof.Rows PySem.W PySem.SeqAt

/-! the patterns' search: nothing found in the short texts that occur -/
theorem slot_re_search : Slot "re.Pattern" "search" "re.Pattern.search" :=
  .of (owner := "re.Pattern") (n := "search") (by rw [typeLookup_type, builtinLookup_eq_fast]; kernel_rfl) (by decide +kernel) (by decide +kernel) (by decide +kernel)
    (by first | exact .inl (by decide +kernel) | exact .inr (by decide +kernel)) (by rw [isSubtype_type]; kernel_rfl)
theorem entry_re_search : entryFor table "re.Pattern.search" = some Builtin.«re.Pattern.search» := entryFor_of_fast (by kernel_rfl)
theorem type_re_search : typeOf (.builtin "re.Pattern.search") = pure (.type "method_descriptor") := by show builtinType _ = _; rw [builtinType_eq_fast]; kernel_rfl
theorem plainAttrs_re : PlainAttrs "re.Pattern" :=
  ⟨⟨"object.__getattribute__", by rw [typeLookup_type, builtinLookup_eq_fast]; kernel_rfl, by decide +kernel⟩, by rw [typeLookup_type, builtinLookup_eq_fast]; kernel_rfl⟩
theorem args_re_search (a b : Value) : argsOk "re.Pattern.search" ⟨[a, b], []⟩ := by unfold argsOk; kernel_rfl

noncomputable def okList : List Str := ["", "a", "A", "b", "B", "c", "C", "x", "X", "y", "Y", "z", "Z", "p", "q", "0", "1", "2", "3"]
noncomputable def okS (x : Str) : Bool := okList.contains x

noncomputable def goes : Nat → Sre.M → Option Sre.M
  | 0, _ => none
  | j + 1, m => if (m.runFor Builtin.Re.reTurnSteps).outcome.isSome then some (m.runFor Builtin.Re.reTurnSteps) else goes j (m.runFor Builtin.Re.reTurnSteps)
noncomputable def failsM (m : Sre.M) : Bool := match m.outcome with | some .failed => true | _ => false
noncomputable def nameCode : Array Nat := #[14, 10, 4, 1, 1, 22, 0, 31, 16, 127, 0, 13, 7, 22, 0, 31, 16, 127, 0, 1]
noncomputable def valCode : Array Nat := #[14, 14, 4, 1, 1, 9, 4294966783, 0, 0, 2147483648, 0, 0, 0, 0, 0, 13, 11, 9, 4294966783, 0, 0, 2147483648, 0, 0, 0, 0, 0, 1]
noncomputable def noFind (code : Array Nat) (x : Str) : Bool := match goes 64 (Sre.forSearch code x.cps 0 0 x.cps.size false) with | some m => failsM m | none => false
theorem noFind_name : ∀ x ∈ okList, noFind nameCode x = true := by decide +kernel
theorem noFind_val : ∀ x ∈ okList, noFind valCode x = true := by decide +kernel

section
variable {prog : Program} {w : World} {M : Model} {A : Around} {E : Value → Shared → Prop} {s : Shared}
theorem drive_ok {Q : Sre.M → Shared → Prop} : ∀ (j turns : Nat) (m m' : Sre.M), goes j m = some m' → j ≤ turns → Q m' s → wpAny M A (Builtin.Re.reDrive turns m) Q E s
  | 0, _, _, _, e, _, _ => nomatch e
  | j + 1, 0, _, _, _, h, _ => absurd h (by omega)
  | j + 1, n + 1, m, m', e, h, q => by
    unfold goes at e
    unfold Builtin.Re.reDrive
    dsimp only
    split at e
    · rename_i hs
      cases e
      rw [if_pos hs]
      exact wpAny_pure q
    · rename_i hs
      rw [if_neg hs]
      exact wpAny_bind (wpAny_rule (drive_ok j n _ m' e (by omega) q))

theorem rules_ok {Q : PUnit → Shared → Prop} (m : Sre.M) (q : Q ⟨⟩ s) : ∀ (l : List Nat), wpAny M A (forIn l PUnit.unit (fun i _ => (if m.seen.has i = true then (do rule (Sre.names.getD i ""); pure (ForInStep.yield PUnit.unit)) else pure (ForInStep.yield PUnit.unit) : Sem (ForInStep PUnit)))) Q E s
  | [] => by rw [List.forIn_nil]; exact wpAny_pure q
  | i :: l => by
    rw [List.forIn_cons]
    refine wpAny_bind ?_
    split
    · exact wpAny_bind (wpAny_rule (wpAny_pure (rules_ok m q l)))
    · exact wpAny_pure (rules_ok m q l)

theorem toEnd_ok {m m' : Sre.M} {Q : Option Sre.M → Shared → Prop} (h : goes 64 m = some m') (hf : failsM m' = true) (q : Q none s) : wpAny M A (Builtin.Re.reRunToEnd m) Q E s := by
  unfold Builtin.Re.reRunToEnd
  refine wpAny_bind (drive_ok 64 (2 ^ 64) m m' h (by decide) ?_)
  refine wpAny_bind (wpAny_mono (rules_ok (M := M) (A := A) (E := E) (s := s) m' (Q := fun _ s' => s' = s) rfl (List.range Sre.names.size)) (fun _ s' (e : s' = s) => ?_) fun _ _ z => z)
  subst e
  unfold failsM at hf
  split at hf
  · rename_i ho
    rw [ho]
    exact wpAny_pure q
  · cases hf

/-- a pattern in the heap -/
inductive PatAt (h : Heap) (p : Addr) (code : Array Nat) : Prop
  | mk (o : Obj) (fs : Array Value) (ct : Addr) (oc : Obj) (cs : Array Value) (n : Nat) (e1 : h.get? p = some o) (e2 : o.cls = .type "re.Pattern") (e3 : o.dict = none) (e4 : o.data = .fields fs) (e5 : fs[2]? = some (.int 0 0)) (e6 : fs[5]? = some (.ref ct)) (e7 : fs[6]? = some (.int 0 0))
    (e8 : h.get? ct = some oc) (e9 : oc.data = .seq cs n) (e10 : (cs.map Builtin.Re.reRawOf).map (·.toNat) = code)
theorem PatAt.stays {h h' : Heap} {p : Addr} {code : Array Nat} (k : Stays h h') (x : PatAt h p code) : PatAt h' p code := by
  obtain ⟨o, fs, ct, oc, cs, n, e1, e2, e3, e4, e5, e6, e7, e8, e9, e10⟩ := x
  exact ⟨o, fs, ct, oc, cs, n, k _ _ e1, e2, e3, e4, e5, e6, e7, k _ _ e8, e9, e10⟩

theorem search_ok {p : Addr} {code : Array Nat} {x : Str} {t : Tok} {Q : Value → Shared → Prop} (P : PatAt s.heap p code) (hf : noFind code x = true) (hx1 : x.cps.size ≤ 1000) (q : Q .none s) :
    wpAny (model prog w) A (call (.builtin "re.Pattern.search") [.ref p, .str x t]) Q E s := by
  obtain ⟨o, fs, ct, oc, cs, n, ho, hc, hd, hfs, f2, f5, f6, hoc, hcs, hcode⟩ := P
  refine wpAny_call_entry slot_re_search ⟨o, ho, hc⟩ entry_re_search ?_ (args_re_search _ _)
  unfold Builtin.«re.Pattern.search» Builtin.Re.reTarget
  have hn : Builtin.Re.reNamed "re.Pattern.search" "search" ["string", "pos", "endpos"] 1 [Value.str x t] [] = pure [some (Value.str x t), none, none] := by kernel_rfl
  dsimp only
  rw [hn]
  refine wpAny_bind (wpAny_bind (wpAny_pure ?_))
  dsimp only
  refine wpAny_bind (wpAny_pure (wpAny_bind (wpAny_pure ?_)))
  refine wpAny_bind (wpAny_fieldsOf ho hfs ?_)
  have hx : Builtin.Re.reTextOf (Value.str x t) = pure (x.cps, 0) := rfl
  rw [hx]
  refine wpAny_bind (wpAny_pure ?_)
  have e6 : fs.getD 6 .none = .int 0 0 := by rw [Array.getD_eq_getD_getElem?, f6]; rfl
  have e5 : fs.getD 5 .none = .ref ct := by rw [Array.getD_eq_getD_getElem?, f5]; rfl
  have e2 : fs.getD 2 .none = .int 0 0 := by rw [Array.getD_eq_getD_getElem?, f2]; rfl
  rw [e6, e5, e2]
  rw [if_neg (by intro z; cases z), if_neg (by intro z; cases z)]
  have hnc : Builtin.Re.reNoCollectionInside (Value.str x t) (x.cps, 0).snd = pure () := rfl
  rw [hnc]
  refine wpAny_bind (wpAny_pure ?_)
  unfold Builtin.Re.reRawItems seqItems?
  refine wpAny_bind (wpAny_bind (wpAny_bind (wpAny_load hoc ?_)))
  rw [hcs]
  refine wpAny_pure (wpAny_pure (wpAny_pure ?_))
  have h0 : min (Int.toNat 0) (x.cps, 0).fst.size = 0 := Nat.zero_min _
  have h1 : min ((2 : Int) ^ 63 - 1).toNat (x.cps, 0).fst.size = x.cps.size := Nat.min_eq_right (Nat.le_trans hx1 (by decide))
  have hz : Builtin.Re.reRawNat (Value.int 0 0) = 0 := rfl
  dsimp only [Option.getD_some]
  rw [hcode, hz, h0]
  unfold Builtin.Re.reAnswer
  dsimp only
  unfold noFind at hf
  split at hf
  · rename_i m hm
    refine wpAny_bind (toEnd_ok (m' := m) (by rw [← hm]; congr 2) hf ?_)
    exact wpAny_pure ⟨_, rfl, q⟩
  · cases hf
end
theorem okS_size : ∀ x ∈ okList, x.cps.size ≤ 1000 := by decide +kernel
theorem okS_mem {x : Str} (h : okS x = true) : x ∈ okList := List.contains_iff_mem.mp h
end Mine

namespace Mine
open PySem PySem.Calls PySem.Spec PyProof.Rows PySem.W PySem.SeqAt

/-! a function's frame, with any names bound at its head -/
structure FunAt (H0 : Heap) (a : Addr) (fd : FuncData) : Prop where
  at_ : ∃ o, H0.get? a = some o ∧ o.data = .func fd
  code : H0.CodeRec fd.code fd.qualname

noncomputable def plainFd (fd : FuncData) : Prop := fd.globals = mainGlobals ∧ fd.builtins = builtinsNs ∧ fd.closure = [] ∧ plainSc fd.scope = true

section
variable {prog : Program} {w : World} {A : Around} {s0 s : Shared} {env : Env} {C : Cls} {H0 : Heap} {k : Nat} {mg mb : Str → Option Value}

theorem bind_has {kf : Str → Option NameKind} {x : Str} {v : Value} : ∀ (b : List (Str × Value)) (m cm : Str → Option Value), distinct (b.map (·.1)) = true → (x, v) ∈ b →
    (kf x = some .local → bindL kf b m x = some v) ∧ (kf x ≠ some .local → bindC kf b cm x = some v)
  | [], _, _, _, h => nomatch h
  | (y, u) :: r, m, cm, hd, h => by
    have hd' : ((!(r.map (·.1)).contains y) && distinct (r.map (·.1))) = true := hd
    rw [Bool.and_eq_true, Bool.not_eq_true'] at hd'
    have hn : ∀ p ∈ r, p.1 ≠ y := fun p hp q => by
      have := hd'.1
      rw [List.contains_iff_mem.mpr (q ▸ List.mem_map_of_mem hp)] at this
      cases this
    rcases List.mem_cons.mp h with e | h
    · cases e
      refine ⟨fun hk => ?_, fun hk => ?_⟩
      · unfold bindL
        rw [bindL_other r _ hn, if_pos hk]
        simp
      · unfold bindC
        rw [bindC_other r _ hn, if_neg hk]
        simp
    · exact bind_has r _ _ hd'.2 h

/-- the names are bound; it may make the state s of s0 -/
noncomputable def BindsIn (s0 s : Shared) (fd : FuncData) (args : Args) (binds : List (Str × Value)) : Prop :=
  ∀ (M : Model) (A : Around) (E : Value → Shared → Prop) (Q : List (Str × Value) → Shared → Prop), Q binds s → wpAny M A (bindArgs fd args) Q E s0
theorem codeAny_cells {R : Result → Shared → Prop} {a : Addr} {o : Obj} {fd : FuncData} {body : List Stmt} {args : Args} {binds : List (Str × Value)}
    (hroom : A.depth < recursionLimit) (ho : s0.heap.get? a = some o) (hdata : o.data = .func fd) (hlim : s.heap.NoLimit) (hcd : s0.heap.CodeRec fd.code fd.qualname)
    (hbody : fd.body = .stmts body) (hbind : BindsIn s0 s fd args binds) (hclo : fd.closure = [])
    (hkind : ∀ x ∈ binds, fd.scope.names.lookup x.1 = some .local ∨ (fd.scope.names.lookup x.1 = some .cell ∧ ((cellsFrom (s.heap.objs.size + 1) fd.scope.names []).lookup x.1).isSome = true))
    (h : ∀ s₁, InCallC s (callEnvC fd s.heap.objs.size a).locals (bindL (callEnvC fd s.heap.objs.size a).kindOf binds fun _ => none) (callEnvC fd s.heap.objs.size a).cells
        (bindC (callEnvC fd s.heap.objs.size a).kindOf binds fun _ => none) s₁ →
      wpAny (model prog w) (A.deeper (callEnvC fd s.heap.objs.size a)) (execs body (callEnvC fd s.heap.objs.size a)) (fun f s' => R (.ok (.ret (match f with | .ret v => v | _ => .none))) s')
        (fun e s' => wpAny (model prog w) (A.deeper (callEnvC fd s.heap.objs.size a)) (leaving (callEnvC fd s.heap.objs.size a) e) (fun _ s'' => R (.error e) s'') (fun e' s'' => R (.error e') s'') s') s₁)
    (hco : fd.scope.isCoroutine = false) (hgen : fd.scope.isGenerator = false) (hk : fd.scope.kind = .function) :
    codeAny (model prog w) A (.call (.ref a) args) R s0 := by
  refine codeAny_call_function hroom ho hdata hco hgen hbody hcd (hbind _ _ _ _ ?_)
  rw [hclo]
  refine wpAny_newFunctionEnv_cells hk hkind fun env he s' x => ?_
  subst he
  exact ⟨hlim.keeps x.toInCall.keep, codeAny_func (h s' x)⟩

theorem entry_stG {fd : FuncData} {a : Addr} {args : Args} {binds : List (Str × Value)} {body : List Stmt} {R : Result → Shared → Prop} (FA : FunAt H0 a fd) (hst0 : Stays H0 s0.heap) (st0 : Stays s0.heap s.heap) (hbody : fd.body = .stmts body) (hfd : plainFd fd)
    (hroom : A.depth < recursionLimit) (hlim : H0.NoLimit) (hbind : BindsIn s0 s fd args binds) (hd : distinct (binds.map (·.1)) = true) (hk : binds.all (fun p => own1 fd.scope p.1) = true)
    {B0 : Addr → Option Obj} {P : Addr → Prop} {X0 : List (Str × Addr)} {ρ0 : Rho}
    (h0 : ∀ b o, H0.get? b = some o → B0 b = some o) (base : ∀ b o, B0 b = some o → s.heap.get? b = some o) (fresh : ∀ b, s.heap.get? b = none → P b)
    (hX : ∀ p ∈ X0, B0 p.2 = none ∧ P p.2 ∧ ∃ vs n, s.heap.get? p.2 = some (lst vs n)) (xnd : ∀ p ∈ X0, ∀ q ∈ X0, p.2 = q.2 → p.1 = q.1) (xfn : ∀ p ∈ X0, ∀ q ∈ X0, p.1 = q.1 → p.2 = q.2)
    (ents : ∀ x ent, ρ0.lookup x = some ent → ∃ v, (x, v) ∈ binds ∧ EntS C B0 (fun b => P b ∧ ∀ p ∈ X0, p.2 ≠ b) X0 s.heap x v ent)
    (kk : ∀ env h1 tk, env = callEnvC fd s.heap.objs.size a → St C H0 P B0 env (own1 env.scope) X0 ρ0 h1 → Stays s.heap h1 → (∀ p ∈ binds, VarHas h1 env p.1 p.2) →
      wpAny (model prog w) (A.deeper env) (execs body env) (fun f s' => R (.ok (.ret (match f with | .ret v => v | _ => .none))) s') NoE { s with heap := h1, toks := tk }) :
    codeAny (model prog w) A (.call (.ref a) args) R s0 := by
  have hst : Stays H0 s.heap := hst0.trans st0
  obtain ⟨⟨o, ho, hdat⟩, hcode⟩ := FA
  obtain ⟨hgl, hbl, hclo, hsc⟩ := hfd
  unfold plainSc at hsc
  simp only [Bool.and_eq_true, Bool.not_eq_true', beq_iff_eq] at hsc
  obtain ⟨⟨⟨hf, hco⟩, hge⟩, hfree⟩ := hsc
  refine codeAny_cells hroom (hst0 _ _ ho) hdat (hlim.keeps hst) (hcode.keeps hst0) hbody hbind hclo ?_ (fun s₁ x => ?_) hco hge hf
  · intro p hp
    have := List.all_eq_true.mp hk p hp
    unfold own1 at this
    show fd.scope.names.lookup p.1 = _ ∨ (fd.scope.names.lookup p.1 = _ ∧ ((cellsFrom _ fd.scope.names []).lookup p.1).isSome = true)
    split at this
    · rename_i h1; exact .inl h1
    · rename_i h1; exact .inr ⟨h1, cells_some _ _ _ (.inr h1)⟩
    · cases this
  · obtain ⟨h1, tk1, e1⟩ := x.toInCall.same
    subst e1
    have keep : Stays s.heap h1 := x.toInCall.keep
    generalize henv : callEnvC fd s.heap.objs.size a = env at x
    have eL : env.locals = s.heap.objs.size := by rw [← henv]; rfl
    have eC : env.cells = cellsFrom (s.heap.objs.size + 1) fd.scope.names [] := by rw [← henv]; rfl
    have eS : env.scope = fd.scope := by rw [← henv]; rfl
    have eK : ∀ y, env.kindOf y = fd.scope.names.lookup y := fun y => by rw [← henv]; rfl
    have vars : ∀ p ∈ binds, VarHas h1 env p.1 p.2 := fun p hp => by
      have := List.all_eq_true.mp hk p hp
      obtain ⟨hl, hcl⟩ := bind_has (kf := env.kindOf) binds (fun _ => none) (fun _ => none) hd hp
      unfold own1 at this
      split at this
      · rename_i h2; exact .inl ⟨(eK _).trans h2, _, x.toInCall.ns, hl ((eK _).trans h2)⟩
      · rename_i h2
        obtain ⟨c, hc⟩ := Option.isSome_iff_exists.mp (cells_some fd.scope.names (s.heap.objs.size + 1) [] (.inr h2))
        have hc' : env.cells.lookup p.1 = some c := by rw [eC]; exact hc
        refine .inr ⟨.inl ((eK _).trans h2), c, hc', ?_⟩
        have i := x.cell p.1 c hc'
        rw [hcl (by rw [eK, h2]; intro z; cases z)] at i
        exact i
      · cases this
    have none_at : ∀ c, s.heap.objs.size ≤ c → s.heap.get? c = none := fun c hc => by
      cases z : s.heap.get? c with
      | none => rfl
      | some o' => exact absurd (Nat.lt_of_lt_of_le (Heap.lt_size z) hc) (Nat.lt_irrefl _)
    have bnone : ∀ c, s.heap.objs.size ≤ c → B0 c = none := fun c hc => by
      cases z : B0 c with
      | none => rfl
      | some o' => have := base c o' z; rw [none_at c hc] at this; cases this
    have t : St C H0 P B0 env (own1 env.scope) X0 ρ0 h1 := {
      fn := by rw [eS]; exact hf
      gl := by rw [← henv]; exact hgl
      bl := by rw [← henv]; exact hbl
      h0 := h0
      base := fun b o e => keep b o (base b o e)
      fresh := fun b e => fresh b (none_of_stays keep e)
      ns := ⟨_, x.toInCall.ns⟩
      bL := bnone _ (Nat.le_of_eq eL.symm)
      mine := fun y hy => by
        rw [eS] at hy
        unfold own1 at hy
        split at hy
        · rename_i h2; exact .inl ((eK _).trans h2)
        · rename_i h2
          refine .inr ⟨(eK _).trans h2, ?_⟩
          obtain ⟨c, hc⟩ := Option.isSome_iff_exists.mp (cells_some fd.scope.names (s.heap.objs.size + 1) [] (.inr h2))
          have hc' : env.cells.lookup y = some c := by rw [eC]; exact hc
          refine ⟨c, _, hc', x.cell y c hc', bnone c ?_⟩
          have := x.above y c (mem_of_lookup hc')
          rw [eL] at this
          exact Nat.le_of_lt this
        · cases hy
      apart := fun y z c hy hz _ => name_of_addr x.apart (mem_of_lookup hy) (mem_of_lookup hz)
      cells := fun y hy => by
        rcases hy with hy | hy
        · rw [eC]; exact Option.isSome_iff_exists.mp (cells_some fd.scope.names (s.heap.objs.size + 1) [] (.inr ((eK _).symm.trans hy)))
        · have := List.all_eq_true.mp hfree _ (mem_of_lookup ((eK _).symm.trans hy))
          simp at this
      isCell := fun y c hy => ⟨_, x.cell y c hy⟩
      xs := fun p hp => by
        obtain ⟨b1, _, vs, n, e⟩ := hX p hp
        refine ⟨b1, fun q => ?_, vs, n, keep _ _ e⟩
        rw [none_at _ (Nat.le_of_eq (eL.symm.trans q.symm))] at e
        cases e
      xp := fun p hp => (hX p hp).2.1
      xnd := xnd
      xfn := xfn
      vars := fun y ent e => by
        unfold look at e
        split at e
        rotate_left
        · cases e
        obtain ⟨v, hv, he⟩ := ents y ent e
        refine ⟨v, vars _ hv, ?_⟩
        have loc : ∀ (as : List Addr), (∀ b ∈ as, ∃ o, s.heap.get? b = some o) → (∀ b ∈ as, P b ∧ ∀ p ∈ X0, p.2 ≠ b) → ∀ b ∈ as, UU P env X0 b := fun as q u b hb =>
          ⟨(u b hb).1, (fun z => by
            obtain ⟨o', ho'⟩ := q b hb
            rw [none_at b (Nat.le_of_eq (eL.symm.trans z.symm))] at ho'
            cases ho'), (u b hb).2⟩
        have one : ∀ {v d}, Rep (fun b => P b ∧ ∀ p ∈ X0, p.2 ≠ b) s.heap v d → Rep (UU P env X0) h1 v d := fun {v d} ⟨as, r, u⟩ =>
          Rep.stays keep ⟨as, r, loc as (fun b hb => repAll_new.reads_alloc r b hb) u⟩
        have many : ∀ {vs ds}, RepAll (fun b => P b ∧ ∀ p ∈ X0, p.2 ≠ b) s.heap vs ds → RepAll (UU P env X0) h1 vs ds := fun {vs ds} ⟨as, r, u⟩ =>
          RepAll.stays keep ⟨as, r, loc as (fun b hb => repAll_new.readsAll_alloc r b hb) u⟩
        cases ent with
        | val d => exact one he
        | own ds => obtain ⟨b, vs, n, e1, e2, e3, r⟩ := he; exact ⟨b, vs, n, e1, e2, keep _ _ e3, many r⟩
        | slf ds => obtain ⟨y9, dx, hs9, tk9, a9, e1, e2, e3, r⟩ := he; exact ⟨y9, dx, hs9, tk9, a9, e1, e2, e3, one r⟩
        | kwd => exact he
        | hdr ds => obtain ⟨y9, dx, hs9, tk9, a9, vs, n, e1, e2, e3, e4, e5, r⟩ := he; exact ⟨y9, dx, hs9, tk9, a9, vs, n, e1, e2, e3, e4, keep _ _ e5, many r⟩ }
    refine wpAny_mono (kk env h1 tk1 henv.symm t keep vars) (fun f s' z => z) fun _ _ z => z.elim
theorem entry_st {fd : FuncData} {a : Addr} {args : Args} {binds : List (Str × Value)} {body : List Stmt} {R : Result → Shared → Prop} (FA : FunAt H0 a fd) (hst : Stays H0 s.heap) (hbody : fd.body = .stmts body) (hfd : plainFd fd)
    (hroom : A.depth < recursionLimit) (hlim : H0.NoLimit) (hbind : BindsTo s fd args binds) (hd : distinct (binds.map (·.1)) = true) (hk : binds.all (fun p => own1 fd.scope p.1) = true)
    {B0 : Addr → Option Obj} {P : Addr → Prop} {X0 : List (Str × Addr)} {ρ0 : Rho}
    (h0 : ∀ b o, H0.get? b = some o → B0 b = some o) (base : ∀ b o, B0 b = some o → s.heap.get? b = some o) (fresh : ∀ b, s.heap.get? b = none → P b)
    (hX : ∀ p ∈ X0, B0 p.2 = none ∧ P p.2 ∧ ∃ vs n, s.heap.get? p.2 = some (lst vs n)) (xnd : ∀ p ∈ X0, ∀ q ∈ X0, p.2 = q.2 → p.1 = q.1) (xfn : ∀ p ∈ X0, ∀ q ∈ X0, p.1 = q.1 → p.2 = q.2)
    (ents : ∀ x ent, ρ0.lookup x = some ent → ∃ v, (x, v) ∈ binds ∧ EntS C B0 (fun b => P b ∧ ∀ p ∈ X0, p.2 ≠ b) X0 s.heap x v ent)
    (kk : ∀ env h1 tk, env = callEnvC fd s.heap.objs.size a → St C H0 P B0 env (own1 env.scope) X0 ρ0 h1 → Stays s.heap h1 → (∀ p ∈ binds, VarHas h1 env p.1 p.2) →
      wpAny (model prog w) (A.deeper env) (execs body env) (fun f s' => R (.ok (.ret (match f with | .ret v => v | _ => .none))) s') NoE { s with heap := h1, toks := tk }) :
    codeAny (model prog w) A (.call (.ref a) args) R s :=
  entry_stG (s0 := s) FA hst (Stays.refl _) hbody hfd hroom hlim hbind hd hk h0 base fresh hX xnd xfn ents kk
end
end Mine

namespace Mine
open PySem PySem.Calls PySem.Spec PyProof.Rows PySem.W PySem.SeqAt

/-! _convert_string_type -/
structure Ground1 (mg mb : Str → Option Value) (H0 : Heap) : Prop extends Ground0 mg mb H0 where
  type_ : mg ("type" : Str) = none ∧ mb ("type" : Str) = some (.type "type")
  str_ : mg ("str" : Str) = none ∧ mb ("str" : Str) = some (.type "str")
  pats : ∃ pn pv, mg ("_name_disallowed_re" : Str) = some (.ref pn) ∧ mg ("_value_disallowed_re" : Str) = some (.ref pv) ∧ PatAt H0 pn nameCode ∧ PatAt H0 pv valCode

noncomputable def convScope : Scope := { kind := .function, names := [("self", .local), ("value", .local), ("name", .local), ("regex", .local), ("type", .globalImplicit), ("str", .globalImplicit), ("_name_disallowed_re", .globalImplicit), ("_value_disallowed_re", .globalImplicit), ("ValueError", .globalImplicit), ("AssertionError", .globalImplicit), ("repr", .globalImplicit)], isGenerator := false, isCoroutine := false }

inductive ConvBody (body : List Stmt) : Prop
  | mk (p1 p2 p3 p4 p5 p6 p7 p8 p9 p10 p11 p12 p13 p14 p15 p16 p17 p18 p19 : Pos) (rs : List Stmt) (last : Stmt) (hl : (p13.endLine == p15.line) = true)
      (hb : body = [.If (.Compare (.Call (.Name "type" p1) [.Name "value" p2] [] p3) [.Is] [.Name "str" p4] p5)
        [.Assign [.Name "regex" p6] (.IfExp (.Name "name" p7) (.Name "_name_disallowed_re" p8) (.Name "_value_disallowed_re" p9) p10) p11,
         .If (.Call (.Attribute (.Name "regex" p12) "search" p13) [.Name "value" p14] [] p15) rs [] p16, .Return (some (.Name "value" p17)) p18] [] p19, last])
structure ConvAt (H0 : Heap) (f : Addr) : Prop where
  has : ∃ fd, FunAt H0 f fd ∧ plainFd fd ∧ fd.scope = convScope ∧ (∃ body, fd.body = .stmts body ∧ ConvBody body) ∧
    ∀ self v b, bindArgs fd ⟨[self, v], [(("name" : Str), .bool b)]⟩ = pure [(("self" : Str), self), (("value" : Str), v), (("name" : Str), .bool b)]

section
variable {prog : Program} {w : World} {A : Around} {s : Shared} {env : Env} {C : Cls} {H0 : Heap} {k : Nat} {mg mb : Str → Option Value}

theorem load_has {x : Str} {v : Value} {pos : Pos} {Q E : Value → Shared → Prop} (hk : env.scope.kind = .function) (hd : (x == ("__debug__" : Str)) = false) (hc : (x == ("__classdict__" : Str)) = false) (hv : VarHas s.heap env x v) (h : Q v s) :
    wpAny (model prog w) A (eval (.Name x pos) env) Q E s := by
  refine wpAny_Name ?_ hd
  rcases hv with ⟨hl, m, n, hx⟩ | ⟨hl, c, hcl, hi⟩
  · exact wpAny_loadName_local hk hl n hx h
  · rcases hl with hl | hl
    · exact wpAny_loadName_cell hk hl hcl hi h
    · exact wpAny_loadName_free hk hl hcl hi h hc

theorem conv_ok {f : Addr} (CA : ConvAt H0 f) (G : Ground1 mg mb H0) {self : Value} {x : Str} {t : Tok} {b : Bool} (hx : okS x = true) (rm : Room A 1) (hst : Stays H0 s.heap) :
    wpAny (model prog w) A (call (.ref f) [self, .str x t] [("name", .bool b)]) (fun r s' => ∃ h' tk, s' = { s with heap := h', toks := tk } ∧ Stays s.heap h' ∧ r = .str x t) NoE s := by
  obtain ⟨fd, FA, hfd, hsc, ⟨_, hbody, p1, p2, p3, p4, p5, p6, p7, p8, p9, p10, p11, p12, p13, p14, p15, p16, p17, p18, p19, rs, last, hline, rfl⟩, hbind⟩ := CA.has
  obtain ⟨pn, pv, gn, gv, patn, patv⟩ := G.pats
  have hdis : distinct ([(("self" : Str), self), ("value", .str x t), ("name", .bool b)].map (·.1)) = true := by
    show distinct [("self" : Str), "value", "name"] = true
    decide +kernel
  have hown : ([(("self" : Str), self), ("value", .str x t), ("name", .bool b)].all fun p => own1 fd.scope p.1) = true := by
    rw [hsc]
    show (own1 convScope "self" && (own1 convScope "value" && (own1 convScope "name" && true))) = true
    decide +kernel
  refine wpAny_call (entry_st (C := ⟨0, fun _ _ => True⟩) (B0 := fun a => s.heap.get? a) (P := fun _ => True) (X0 := []) (ρ0 := []) FA hst hbody hfd (by have := rm.depth; omega) G.nolimit (BindsTo.of_eq (hbind _ _ _)) hdis hown
    hst (fun _ _ z => z) (fun _ _ => trivial) (fun _ h => nomatch h) (fun _ h => nomatch h) (fun _ h => nomatch h) (fun _ _ h => nomatch h) ?_)
  intro env h1 tk henv t1 st1 vars
  have hS : env.scope = convScope := by rw [henv, ← hsc]; rfl
  have hF : env.scope.kind = .function := by rw [hS]; rfl
  have hv := vars _ (List.mem_cons_of_mem _ List.mem_cons_self)
  have hn := vars _ (List.mem_cons_of_mem _ (List.mem_cons_of_mem _ List.mem_cons_self))
  have gi : ∀ f : Str, convScope.names.lookup f = some .globalImplicit → env.scope.names.lookup f = some .globalImplicit := fun f e => by rw [hS]; exact e
  refine wpAny_execs_cons (wpAny_If (wpAny_isTrue_Compare1 (Call_ (built_ok G.toGround0 t1.cx (gi _ rfl) (by decide +kernel) G.type_ ?_)) (by rfl)))
  refine callWith_type1 (wpAny_items_cons (load_has hF (by decide +kernel) (by decide +kernel) hv (wpAny_items_nil ?_)))
  refine call_type_of (Tx := "str") rfl (by decide +kernel) ?_
  refine built_ok G.toGround0 t1.cx (gi _ rfl) (by decide +kernel) G.str_ ?_
  refine wpAny_is_plain (by rfl) ?_
  rw [beq_self_eq_true]
  refine wpAny_truthy_bool ?_
  dsimp only [if_true]
  -- the pattern is chosen
  obtain ⟨p, code, hp, hpc, hf⟩ : ∃ p code, mg (if b then ("_name_disallowed_re" : Str) else "_value_disallowed_re") = some (.ref p) ∧ PatAt H0 p code ∧ noFind code x = true := by
    cases b with
    | true => exact ⟨pn, _, gn, patn, noFind_name x (okS_mem hx)⟩
    | false => exact ⟨pv, _, gv, patv, noFind_val x (okS_mem hx)⟩
  refine wpAny_execs_cons (wpAny_Assign_Name (wpAny_IfExp (wpAny_isTrue_value (load_has hF (by decide +kernel) (by decide +kernel) hn (wpAny_truthy_bool ?_)))) ?_)
  rotate_left
  · rfl
  have hname : ∀ Q : Value → Shared → Prop, Q (.ref p) { s with heap := h1, toks := tk } → (if b = true then wpAny (model prog w) (A.deeper env) (eval (.Name "_name_disallowed_re" p8) env) Q NoE { s with heap := h1, toks := tk } else wpAny (model prog w) (A.deeper env) (eval (.Name "_value_disallowed_re" p9) env) Q NoE { s with heap := h1, toks := tk }) := fun Q q => by
    cases b with
    | true => exact glob_ok (s := { s with heap := h1, toks := tk }) G.toGround0 t1.cx (gi _ rfl) (by decide +kernel) hp q
    | false => exact glob_ok (s := { s with heap := h1, toks := tk }) G.toGround0 t1.cx (gi _ rfl) (by decide +kernel) hp q
  refine hname _ ?_
  refine store_raw (s := { s with heap := h1, toks := tk }) t1 (by rw [hS]; decide +kernel) ?_
  intro h2 tk2 a hs ha _ _ _ _ _ hrx hoth
  have st2 : Stays s.heap h2 := fun c o e => (hs.2 c fun q => by rw [q, ha] at e; cases e).trans (st1 c o e)
  have hv2 := hoth "value" _ (by decide +kernel) hv
  dsimp only
  refine wpAny_execs_cons (wpAny_If (wpAny_isTrue_value (wpAny_Call_method_lateS rfl rfl hline (load_has hF (by decide +kernel) (by decide +kernel) hrx ?_))))
  obtain ⟨o, fs, ct, oc, cs, n, ho, hc, hd, _⟩ := (hpc.stays (hst.trans st2))
  refine ⟨"re.Pattern", "re.Pattern.search", plainAttrs_re, slot_re_search, type_re_search, ⟨o, ho, hc⟩, fun a' e' => by cases e'; exact ⟨o, ho, hd⟩, ?_⟩
  refine callWith_method1 (wpAny_items_cons (load_has hF (by decide +kernel) (by decide +kernel) hv2 (wpAny_items_nil ?_)))
  refine search_ok (hpc.stays (hst.trans st2)) hf (okS_size x (okS_mem hx)) ?_
  refine PyProof.Rows.truthy_none ?_
  rw [if_neg (by simp)]
  refine wpAny_execs_nil ?_
  refine wpAny_execs_cons (wpAny_Return_some (load_has hF (by decide +kernel) (by decide +kernel) hv2 ?_))
  exact ⟨h2, tk2, rfl, st2, rfl⟩
end
end Mine

namespace Mine
open PySem PySem.Calls PySem.Spec PyProof.Rows PySem.W PySem.SeqAt

section
variable {prog : Program} {w : World} {A : Around} {E : Value → Shared → Prop} {s : Shared} {env : Env} {C : Cls} {H0 : Heap} {P U : Addr → Prop} {B : Addr → Option Obj} {own : Str → Bool} {X : List (Str × Addr)} {ρ : Rho} {h h' : Heap} {k : Nat} {mg mb : Str → Option Value}

/-! xs[:] = ys -/
theorem setAll_lst {a sl b : Addr} {vs ws : List Value} {n : Nat} {Q : Unit → Shared → Prop} (ha : s.heap.get? a = some (lst vs n)) (hs : s.heap.IsSliceOf sl .none .none .none) (hb : s.heap.IsList b ws.toArray)
    (h1 : vs.length + ws.length ≤ top)
    (hQ : ∀ h' n', h'.get? a = some (lst ws n') → Heap.SameBut a s.heap h' → Q () { s with heap := h' }) : wpAny (model prog w) A (setItem (.ref a) (.ref sl) (.ref b)) Q E s := by
  have hL : s.heap.IsList a vs.toArray := ⟨_, ha, rfl, n, rfl⟩
  obtain ⟨os, hos, hcs, hds⟩ := id hs
  have hTs : s.TypeIs (.ref sl) "slice" := ⟨os, hos, hcs⟩
  have htop := top_le
  unfold setItem
  try with_reducible refine wpAny_holding ?_
  first | refine wpAny_bind (wpAny_pure ?_) | skip
  refine wpAny_bind (wpAny_sequenceKey hL.typeIs (by decide) ?_)
  refine wpAny_bind (wpAny_callSpecial?_slot (name := Str.ofString "__setitem__") hL.typeIs slot_list_setitem
    (wpAny_call_entry slot_list_setitem hL.typeIs entry_list_setitem ?_ (args_list_setitem _ _ _)))
  show wpAny _ _ (Builtin.List.listSubscript? (.ref sl) >>= _) _ _ s
  refine wpAny_bind ?_
  unfold Builtin.List.listSubscript?
  refine wpAny_bind (wpAny_specialOf hTs slice_no_index ?_)
  simp only [Option.isNone_none, if_true]
  refine wpAny_pure ?_
  show wpAny _ _ (typeOf (.ref sl) >>= _) _ _ s
  refine wpAny_bind (wpAny_typeOf hTs ?_)
  rw [if_neg (by decide)]
  rw [listSliceParts_eq]
  have hstep : ¬ ((rawPart (none : Option Int) == rawInt 0) = true) := Bool.false_ne_true
  refine wpAny_bind (wpAny_bind (wpAny_field hos hds (x := .none) rfl (wpAny_bind (wpAny_listPart .none ?_))))
  rw [if_neg hstep]
  refine wpAny_bind (wpAny_field hos hds (x := .none) rfl (wpAny_bind (wpAny_listPart .none ?_)))
  refine wpAny_bind (wpAny_field hos hds (x := .none) rfl (wpAny_bind (wpAny_listPart .none (wpAny_pure ?_))))
  have hTb : s.TypeIs (.ref b) "list" := hb.typeIs
  obtain ⟨ob, hob, hcb, nb, hdb⟩ := id hb
  dsimp only
  cases hsame : Builtin.List.listSameRef (.ref a) (.ref b)
  case' false =>
    simp only [Bool.false_eq_true, if_false]
    refine wpAny_bind ?_
    unfold Builtin.List.listAllItems
    refine wpAny_bind (wpAny_typeOf hTb ?_)
    rw [if_pos (by decide)]
    refine PyProof.Rows.listItems_at hob hdb ?_
  case' true =>
    simp only [if_true]
    refine wpAny_bind (PyProof.Rows.listItems_at hob hdb ?_)
  all_goals
    · refine wpAny_bind (PyProof.Rows.listItems_at ha rfl ?_)
      refine wpAny_bind (wpAny_of_eq (sliceIndices_raw none none none vs.toArray.size (by simp)) ?_)
      have e1 : sliceBounds none none none vs.toArray.size = (0, (vs.length : Int), 1) := by simp [sliceBounds]
      rw [e1]
      dsimp only
      rw [if_pos (by decide)]
      refine wpAny_bind (wpAny_rule ?_)
      rw [if_neg (by unfold Builtin.List.listTooLong; simp; omega)]
      have ef : ∀ (xs : Array Value), xs = vs.toArray → (xs.extract 0 (Int.toNat 0) ++ ws.toArray ++ xs.extract (max (0 : Int) (vs.length : Int)).toNat xs.size).toList = ws := fun xs e => by
        subst e
        have : (max (0 : Int) (vs.length : Int)).toNat = vs.length := by omega
        rw [this]
        simp
      obtain ⟨n', hn'⟩ := upd_lst ha (fun xs => xs.extract 0 (Int.toNat 0) ++ ws.toArray ++ xs.extract (max (0 : Int) (vs.length : Int)).toNat xs.size)
      rw [ef _ rfl] at hn'
      refine wpAny_bind (PyProof.Rows.listUpdate_at ha rfl ?_ (by rw [List.size_toArray]; omega) (by
        have := congrArg List.length (ef _ rfl)
        rw [Array.length_toList] at this
        rw [this]; omega))
      refine wpAny_bind (wpAny_letGo ?_)
      first
        | exact wpAny_bind (wpAny_pure (wpAny_pure ⟨.none, rfl, wpAny_pure (hQ _ n' hn' (Heap.SameBut.update ..))⟩))
        | exact wpAny_pure ⟨.none, rfl, wpAny_pure (hQ _ n' hn' (Heap.SameBut.update ..))⟩

/-! the class's objects -/
structure ClsAt (K : Frag) (H0 : Heap) (Ca : Addr) : Prop where
  X : K.In H0
  ga : findIn K (.ref Ca) "__getattribute__" = some (some (.builtin "object.__getattribute__"))
  gattr : findIn K (.ref Ca) "__getattr__" = some none
  noseq : noSeq K Ca = true
structure MethAt (K : Frag) (H0 : Heap) (Ca : Addr) (m : Str) (f : Addr) : Prop where
  find : findIn K (.ref Ca) m = some (some (.ref f))
  ty : typeIn K (.ref f) = some (.type "function")
  plain : (m == ("_headers" : Str)) = false
  fn : ∃ fd, FunAt H0 f fd

theorem HdrAt.inst {y l : Addr} (x : HdrAt C.addr h y l) : ∃ dx hs t, h.get? y = some (instObj C.addr dx) ∧ InstAt h y (instObj C.addr dx) C.addr (some (dictOf [⟨hs, .str "_headers" t, .ref l⟩] 1)) := by
  obtain ⟨dx, hs, t, e1, e2⟩ := x
  exact ⟨dx, hs, t, e1, ⟨e1, rfl, rfl, e2⟩⟩

theorem shadow_plain {hs : Int} {t : Tok} {l : Addr} {m : Str} (hm : (m == ("_headers" : Str)) = false) : shadowIn (some (dictOf [⟨hs, .str "_headers" t, .ref l⟩] 1)) m = some false := by
  have h1 : (Value.str ("_headers" : Str) t).isStr m = false := by
    have : (("_headers" : Str) == m) = false := by
      rw [beq_eq_false_iff_ne] at hm ⊢
      exact fun q => hm q.symm
    exact this
  unfold shadowIn lookIn
  show Option.map _ (match (List.find? (fun d : DictEntry => d.key.isStr m) [⟨hs, Value.str "_headers" t, .ref l⟩]) with | some e => some (some e.val) | none => if ([⟨hs, Value.str "_headers" t, .ref l⟩] : List DictEntry).any (·.refKey) then none else some none) = some false
  simp only [List.find?_cons, h1, List.find?_nil]
  rfl

theorem getMethod_hdr {K : Frag} {y l f : Addr} {m : Str} {pl : Sem Bool} {Q : Value × List Value → Shared → Prop} (CK : ClsAt K H0 C.addr) (M : MethAt K H0 C.addr m f) (hst : Stays H0 s.heap) (Hy : HdrAt C.addr s.heap y l) (q : Q (.ref f, [.ref y]) s) :
    wpAny (model prog w) A (getMethod (.ref y) m pl) Q E s := by
  obtain ⟨dx, hs, t, _, I⟩ := Hy.inst
  exact method_fn (CK.X.keeps hst) I CK.ga CK.gattr M.find M.ty (shadow_plain M.plain) q

theorem meth_call {K : Frag} {o : Expr} {m : Str} {apos pos : Pos} {args : List Expr} {kws : List Keyword} {Q : Value → Shared → Prop} (CK : ClsAt K H0 C.addr)
    (hbase : attributeBase o m env (eval o env) = eval o env)
    (hfew : methodCallForm (args.length + kws.length) (backTo pos (starEach args env)) (backToKw pos (keywordEach kws env)) = true) (hline : (apos.endLine == pos.line) = true)
    (h : wpAny (model prog w) A (eval o env) (fun ov s₁ => ∃ y l f, ov = .ref y ∧ Stays H0 s₁.heap ∧ HdrAt C.addr s₁.heap y l ∧ MethAt K H0 C.addr m f ∧
      wpAny (model prog w) A (evalArgs (.ref f) true (backTo pos (starEach args env)) (backToKw pos (keywordEach kws env))) (fun x s₂ => Stays H0 s₂.heap ∧ wpAny (model prog w) A (call (.ref f) (.ref y :: x.pos) x.kw) Q E s₂) E s₁) E s) :
    wpAny (model prog w) A (eval (.Call (.Attribute o m apos) args kws pos) env) Q E s := by
  rw [arm_eval_Call, hbase]
  refine wpAny_bind (wpAny_mono h (fun ov s₁ h₁ => ?_) fun _ _ e => e)
  obtain ⟨y, l, f, rfl, hst, Hy, M, hc⟩ := h₁
  refine wpAny_bind (wpAny_standAt ?_)
  have hpos : methodCallPos true o env apos pos = pure pos := by unfold methodCallPos; simp [hline]
  unfold methodCall
  rw [hfew]
  refine wpAny_bind (wpAny_holding (getMethod_hdr CK M hst Hy ?_))
  refine wpAny_bind (wpAny_of_eq hpos ?_)
  obtain ⟨fd, FA⟩ := M.fn
  obtain ⟨of, hof, hdf⟩ := FA.at_
  refine callWith_function_kw (o := of) (fd := fd) (wpAny_mono hc (fun x s₂ h₂ => ⟨⟨h₂.1 _ _ hof, hdf⟩, h₂.2⟩) fun _ _ z => z)

theorem setItem_hdr {K : Frag} {y l f : Addr} {i v : Value} {Q : Unit → Shared → Prop} (CK : ClsAt K H0 C.addr) (M : MethAt K H0 C.addr "__setitem__" f) (hst : Stays H0 s.heap) (Hy : HdrAt C.addr s.heap y l)
    (q : wpAny (model prog w) A (call (.ref f) [.ref y, i, v]) (fun _ s' => Q () s') E s) : wpAny (model prog w) A (setItem (.ref y) i v) Q E s := by
  obtain ⟨dx, hs, t, _, I⟩ := Hy.inst
  have X := CK.X.keeps hst
  unfold setItem sequenceKey
  refine wpAny_holding (wpAny_bind (wpAny_bind (I.type.here ?_)))
  refine wpAny_bind ((anyM_none X CK.noseq).here ?_)
  rw [if_pos (show (!false) = true from rfl)]
  exact wpAny_pure (wpAny_bind (special_fn X I M.find M.ty (wpAny_mono q (fun _ _ z => wpAny_pure z) fun _ _ z => z)))
theorem delItem_hdr {K : Frag} {y l f : Addr} {i : Value} {Q : Unit → Shared → Prop} (CK : ClsAt K H0 C.addr) (M : MethAt K H0 C.addr "__delitem__" f) (hst : Stays H0 s.heap) (Hy : HdrAt C.addr s.heap y l)
    (q : wpAny (model prog w) A (call (.ref f) [.ref y, i]) (fun _ s' => Q () s') E s) : wpAny (model prog w) A (delItem (.ref y) i) Q E s := by
  obtain ⟨dx, hs, t, _, I⟩ := Hy.inst
  have X := CK.X.keeps hst
  unfold delItem sequenceKey
  refine wpAny_holding (wpAny_bind (wpAny_bind (I.type.here ?_)))
  refine wpAny_bind ((anyM_none X CK.noseq).here ?_)
  rw [if_pos (show (!false) = true from rfl)]
  exact wpAny_pure (wpAny_bind (special_fn X I M.find M.ty (wpAny_mono q (fun _ _ z => wpAny_pure z) fun _ _ z => z)))

/-! the owned list behind an object changes, and new objects come -/
theorem St.wrHdr (t : St C H0 P B env own X ρ h) {x : Str} {ps ps' : List PyData} {y a : Addr} {vs' : List Value} {n' : Nat} (hx : look env.scope ρ x = some (.hdr ps)) (hv : VarHas h env x (.ref y)) (hX : (x, a) ∈ X)
    (hk : ∀ b o, b ≠ a → h.get? b = some o → h'.get? b = some o) (ho : h'.get? a = some (lst vs' n')) (hr : RepAll (UU P env X) h' vs' ps') :
    St C H0 P B env own X (ρ.set x (.hdr ps')) h' ∧ Liv (UU P env X) h h' := by
  obtain ⟨hb, hL, vs, n, ha⟩ := t.xs _ hX
  have hs : Heap.SameBut a (h'.update a fun _ => lst vs n) h' := ⟨by rw [Heap.size_update], fun b q => (Heap.get?_update_ne _ _ _ _ q).symm⟩
  have ha1 : (h'.update a fun _ => lst vs n).get? a = some (lst vs n) := by
    exact Heap.get?_update_self (fun _ => lst vs n) ho rfl
  have st : Stays h (h'.update a fun _ => lst vs n) := fun b o e => by
    by_cases q : b = a
    · subst q; rw [ha] at e; rw [← e]; exact ha1
    · rw [Heap.get?_update_ne _ _ _ _ q]; exact hk b o q e
  have t1 := t.stays st
  obtain ⟨lv, t'⟩ := t1.mutX hX hs ho
  obtain ⟨v, hv', y', dx, hs', tk', a', vs0, n0, ⟨e1, ok⟩, e2, e3, e4, e5, _⟩ := t.vars x _ hx
  subst e1
  have ey : a' = a := t.xfn _ e4 _ hX rfl
  subst ey
  refine ⟨{ t' with vars := fun z ent e => ?_ }, fun v d as q u => lv v d as (reads_stays st q) u⟩
  rcases look_set e with ⟨rfl, rfl⟩ | ⟨hy, e⟩
  · exact ⟨_, var_but hs hL ⟨vs, n, ha1⟩ (hv'.stays st), y', dx, hs', tk', a', vs', n', ⟨rfl, ok⟩, e2, e3, e4, ho, hr⟩
  · refine t'.vars z ent ?_
    unfold look at e ⊢
    split at e
    · rename_i c
      rw [if_pos c]
      exact lookup_keep hy e
    · cases e
end
end Mine

namespace Mine
open PySem PySem.Calls PySem.Spec PyProof.Rows PySem.W PySem.SeqAt

/-! what is known of the class's methods; the hooks that lean on it -/
structure HT where
  rd : Str → List PyData → List PyData → Option PyData
  wr : Str → List PyData → List PyData → Option (List PyData × PyData)
  conv : Bool

noncomputable abbrev EHook := (Md → Scope → Rho → Expr → Option PyData) → Scope → Rho → Expr → Option PyData
noncomputable def pairsOf? : Option Ent → Option (List PyData)
  | some (.hdr ps) => some ps
  | some (.slf ps) => some ps
  | _ => none
noncomputable def convD : PyData → Option PyData
  | .str x => if okS x then some (.str x) else none
  | _ => none
/-- name=True, name=False -/
noncomputable def boolKw : List Keyword → Option Str
  | [k] => (match k.arg with
    | some kn => (match k.value with
      | .Constant c _ _ => (match c with
        | .bool _ => some kn
        | _ => none)
      | _ => none)
    | none => none)
  | _ => none
theorem boolKw_eq {l : List Keyword} {kn : Str} (q : boolKw l = some kn) : ∃ b kk bp kp, l = [⟨some kn, .Constant (.bool b) kk bp, kp⟩] := by
  rcases l with _ | ⟨⟨ka, kv, kp⟩, _ | ⟨_, _⟩⟩
  · exact noSome q
  · cases ka with
    | none => exact noSome q
    | some kn =>
      cases kv with
      | Constant c kk bp =>
        cases c with
        | bool b => cases q; exact ⟨_, _, _, _, rfl⟩
        | _ => exact noSome q
      | _ => exact noSome q
  · exact noSome q
noncomputable abbrev CallP := Expr × Str × Pos × List Expr × List Keyword × Pos
noncomputable def hkCall (T : HT) (r : Md → Scope → Rho → Expr → Option PyData) (sc : Scope) (ρ : Rho) (x : Str) (c : CallP) : Option PyData :=
  if (c.2.2.1.endLine == c.2.2.2.2.2.line) && decide (c.2.2.2.1.length < 20) then (pairsOf? (look sc ρ x)).bind fun ps => (evL r sc ρ c.2.2.2.1).bind (T.rd c.2.1 ps) else none
noncomputable def hkConv (T : HT) (r : Md → Scope → Rho → Expr → Option PyData) (sc : Scope) (ρ : Rho) (x : Str) (c : CallP) : Option PyData :=
  (boolKw c.2.2.2.2.1).bind fun kn => (arg1 c.2.2.2.1).bind fun a =>
    if (c.2.2.1.endLine == c.2.2.2.2.2.line) && T.conv && (c.2.1 == ("_convert_string_type" : Str)) && (kn == ("name" : Str)) && !isStar a then
      (pairsOf? (look sc ρ x)).bind fun _ => (r .value sc ρ a).bind convD else none
noncomputable def fieldE (sc : Scope) (ρ : Rho) : Expr → Option PyData
  | .Attribute o m _ => if m == ("_headers" : Str) then (nameOfE o).bind fun x => (match look sc ρ x with | some (.slf ps) => some (.list ps) | _ => none) else none
  | _ => none
noncomputable def hkE (T : HT) : EHook := fun r sc ρ e => match callOf e with
  | some c => (nameOfE c.1).bind fun x => if c.2.2.2.2.1.isEmpty then hkCall T r sc ρ x c else hkConv T r sc ρ x c
  | none => fieldE sc ρ e

section
variable (prog : Program) (w : World) (mg mb : Str → Option Value) (K : Frag) (H0 : Heap) (Ca : Addr) (k : Nat)
inductive RdAt (m : Str) (ps args : List PyData) (d : PyData) : Prop
  | mk (f : Addr) (M : MethAt K H0 Ca m f) (g : ∀ (A : Around) (s : Shared) (U : Addr → Prop) (y a : Addr) (vs vargs : List Value), Room A k → Stays H0 s.heap → HdrAt Ca s.heap y a → s.heap.IsList a vs.toArray → RepAll U s.heap vs ps →
    (∀ b, s.heap.get? b = none → U b) → RepAll U s.heap vargs args → wpAny (model prog w) A (call (.ref f) (.ref y :: vargs)) (EvPost U s d) NoE s)
noncomputable def RdOk (rd : Str → List PyData → List PyData → Option PyData) : Prop := ∀ m ps args d, rd m ps args = some d → RdAt prog w K H0 Ca k m ps args d
/-- what a call that may change the pairs leaves -/
inductive WrPost (P : Addr → Prop) (s : Shared) (a : Addr) (ps' : List PyData) (d : PyData) (r : Value) (s' : Shared) : Prop
  | mk (h' : Heap) (tk : Nat) (vs' : List Value) (n' : Nat) (e : s' = { s with heap := h', toks := tk }) (kp : ∀ b o, b ≠ a → s.heap.get? b = some o → h'.get? b = some o) (at_ : h'.get? a = some (lst vs' n')) (r1 : RepAll P h' vs' ps') (r2 : Rep P h' r d)
inductive WrAt (m : Str) (ps args ps' : List PyData) (d : PyData) : Prop
  | mk (f : Addr) (M : MethAt K H0 Ca m f) (g : ∀ (A : Around) (s : Shared) (P : Addr → Prop) (y a : Addr) (vs vargs : List Value) (n : Nat), Room A k → Stays H0 s.heap → HdrAt Ca s.heap y a → H0.get? a = none → s.heap.get? a = some (lst vs n) → RepAll P s.heap vs ps → ¬ P a →
    (∀ b, s.heap.get? b = none → P b) → RepAll P s.heap vargs args → wpAny (model prog w) A (call (.ref f) (.ref y :: vargs)) (WrPost P s a ps' d) NoE s)
noncomputable def WrOk (wr : Str → List PyData → List PyData → Option (List PyData × PyData)) : Prop := ∀ m ps args ps' d, wr m ps args = some (ps', d) → WrAt prog w K H0 Ca k m ps args ps' d
structure ClOk (T : HT) : Prop where
  cls : ClsAt K H0 Ca
  g : Ground1 mg mb H0
  rd : RdOk prog w K H0 Ca k T.rd
  wr : WrOk prog w K H0 Ca k T.wr
  cv : T.conv = true → 1 ≤ k ∧ ∃ f, MethAt K H0 Ca "_convert_string_type" f ∧ ConvAt H0 f
  field : ∃ cd, clsIn K Ca = some cd ∧ cd.hasDict = true
  nofield : findIn K (.ref Ca) "_headers" = some none
end

section
variable {prog : Program} {w : World} {A : Around} {E : Value → Shared → Prop} {s : Shared} {env : Env} {C : Cls} {H0 : Heap} {P U : Addr → Prop} {B : Addr → Option Obj} {own : Str → Bool} {X : List (Str × Addr)} {ρ ρ' : Rho} {h h' : Heap} {k : Nat} {mg mb : Str → Option Value} {K : Frag} {T : HT}
variable {r : Md → Scope → Rho → Expr → Option PyData}

theorem pairs_at (c : Cx C H0 U env ρ h) {x : Str} {ps : List PyData} (e : pairsOf? (look env.scope ρ x) = some ps) :
    ∃ ent y a vs, look env.scope ρ x = some ent ∧ VarHas h env x (.ref y) ∧ HdrAt C.addr h y a ∧ h.IsList a vs.toArray ∧ RepAll U h vs ps := by
  unfold pairsOf? at e
  split at e
  · rename_i q
    cases e
    obtain ⟨v, hv, y, a, vs, rfl, H, L, R⟩ := c.vars x _ q
    exact ⟨_, y, a, vs, q, hv, H, L, R⟩
  · rename_i q
    cases e
    obtain ⟨v, hv, y, a, rfl, H, R⟩ := c.vars x _ q
    obtain ⟨a', vs, ea, L, R, _⟩ := R.listInv
    cases ea
    exact ⟨_, y, a, vs, q, hv, H, L, R⟩
  · cases e

theorem evalArgs_L (S : Snd prog w H0 C k r) (rm : Room A k) {pos : Pos} {f : Value} : ∀ (es : List Expr) (ds : List PyData) (s : Shared), Cx C H0 U env ρ s.heap → evL r env.scope ρ es = some ds →
    wpAny (model prog w) A (evalArgs f true (backTo pos (starEach es env)) []) (fun x s' => x.kw = [] ∧ EvPostL U s ds x.pos s') NoE s
  | [], ds, s, c, e => by
    simp only [evL, Option.some.injEq] at e
    subst e
    exact PyProof.Rows.evalArgs_none ⟨rfl, s.heap, s.toks, rfl, Stays.refl _, .nil⟩
  | e :: es, ds, s, c, q => by
    have hs : isStar e = false := by
      cases z : isStar e with
      | false => rfl
      | true => simp only [evL, z, if_true] at q; cases q
    have main := evL_ok S rm pos (e :: es) ds s c q
    rw [star_cons hs] at main ⊢
    exact evalArgs_plain (wpAny_mono main (fun vs s' z => ⟨rfl, z⟩) fun _ _ z => z)

theorem form_L {es : List Expr} {ds : List PyData} {pos : Pos} (q : evL r env.scope ρ es = some ds) (hl : es.length < 20) : methodCallForm (es.length + ([] : List Keyword).length) (backTo pos (starEach es env)) (backToKw pos (keywordEach [] env)) = true := by
  have h1 := starEach_any (r := r) (ρ := ρ) (env := env) pos es ds q
  have h2 : (backTo pos (starEach es env)).all (!·.1) = true := by
    rw [List.all_eq_true]
    intro z hz
    rw [List.any_eq_false] at h1
    simpa using h1 z hz
  unfold methodCallForm
  rw [h2]
  show (true && true && decide (es.length + 0 + 0 < 30)) = true
  simp
  omega

theorem look_load {x : Str} {v : Value} {pos : Pos} {ent : Ent} {Q : Value → Shared → Prop} (hk : env.scope.kind = .function) (hx : look env.scope ρ x = some ent) (hv : VarHas s.heap env x v) (q : Q v s) :
    wpAny (model prog w) A (eval (.Name x pos) env) Q E s := wpAny_Name (load_ok hk hx hv q) (look_ok hx).2.1

theorem field_read (CL : ClOk prog w mg mb K H0 C.addr k T) (hst : Stays H0 s.heap) {y a : Addr} {Q : Value → Shared → Prop} {E : Value → Shared → Prop} {expr : Bool} (Hy : HdrAt C.addr s.heap y a) (q : Q (.ref a) { s with toks := s.toks + 1 }) :
    wpAny (model prog w) A (getAttr (.ref y) "_headers" expr) Q E s := by
  obtain ⟨dx, hs, t, _, I⟩ := Hy.inst
  obtain ⟨cd, hcd, hd⟩ := CL.field
  refine get_value (CL.cls.X.keeps hst) I CL.cls.ga ?_ rfl q
  unfold findObj
  rw [hcd, CL.nofield]
  show Option.bind (PySem.W.ownOf cd _ _) _ = _
  unfold PySem.W.ownOf
  rw [hd, if_pos rfl]
  show Option.bind (lookIn _ _) _ = _
  have h1 : lookIn ("_headers" : Str) (dictOf [⟨hs, .str "_headers" t, .ref a⟩] 1) = some (some (.ref a)) := by
    unfold lookIn
    show (match (List.find? (fun d : DictEntry => d.key.isStr "_headers") [⟨hs, Value.str "_headers" t, .ref a⟩]) with | some e => some (some e.val) | none => if ([⟨hs, Value.str "_headers" t, .ref a⟩] : List DictEntry).any (·.refKey) then none else some none) = _
    have h2 : (Value.str ("_headers" : Str) t).isStr "_headers" = true := beq_self_eq_true ("_headers" : Str)
    simp only [List.find?_cons, h2]
  rw [h1]
  rfl

/-- the evaluation of self._convert_string_type(a, name=b) -/
theorem conv_call (CL : ClOk prog w mg mb K H0 C.addr k T) (S : Snd prog w H0 C k r) (c : Cx C H0 U env ρ s.heap) (rm : Room A k) {x : Str} {xp ap cp kp bp : Pos} {m kn : Str} {a : Expr} {b : Bool} {kk : Nat} {d e : PyData} {ps : List PyData}
    (hl : (ap.endLine == cp.line) = true) (hc : T.conv = true) (hm : m = ("_convert_string_type" : Str)) (hkn : kn = ("name" : Str)) (hs : isStar a = false) (hp : pairsOf? (look env.scope ρ x) = some ps) (qa : r .value env.scope ρ a = some d) (q : convD d = some e) :
    wpAny (model prog w) A (eval (.Call (.Attribute (.Name x xp) m ap) [a] [⟨some kn, .Constant (.bool b) kk bp, kp⟩] cp) env) (EvPost U s e) NoE s := by
  subst hm hkn
  obtain ⟨hk1, f, M, CA⟩ := CL.cv hc
  obtain ⟨ent, y, l, vs, hx, hv, Hy, _, _⟩ := pairs_at c hp
  cases d <;> simp only [convD, reduceCtorEq] at q
  rename_i str
  replace q := iteS q
  obtain ⟨hok, q⟩ := q
  cases q
  refine meth_call CL.cls rfl ?_ hl (look_load c.fn hx hv ?_)
  · rw [star_cons hs]; rfl
  refine ⟨y, l, f, rfl, c.h0, Hy, M, ?_⟩
  rw [star_cons hs]
  refine evalArgs_kw (by rfl) ?_
  show wpAny _ _ (spliced ((false, eval a env) :: [])) _ _ _
  refine Calls.spliced_cons (thenV ((S _ _ _ _ _ _ _ _ rfl c rm).1 qa) fun v h₁ tk₁ st₁ rv => Calls.spliced_nil ?_)
  obtain ⟨t, rfl⟩ := rv.strInv
  refine wpAny_evalAll_cons ?_
  show wpAny _ _ (eval (.Constant (.bool b) kk bp) env >>= fun v => standAt cp >>= fun _ => pure v) _ _ _
  refine wpAny_bind (wpAny_mono (const_ok (U := U) (s := { s with heap := h₁, toks := tk₁ }) (d := .bool b) rfl) (fun v s₂ zP => ?_) fun _ _ z => z)
  obtain ⟨h₂, tk₂, e₂, st₂, rb⟩ := zP
  subst e₂
  have := rb.boolInv
  subst this
  refine wpAny_bind (wpAny_standAt (wpAny_pure (wpAny_evalAll_nil ⟨(c.h0.trans st₁).trans st₂, ?_⟩)))
  refine wpAny_mono (conv_ok (s := { s with heap := h₂, toks := tk₂ }) CA CL.g (self := .ref y) (x := str) (t := t) (b := b) hok ⟨rm.handled, by have := rm.depth; omega, by have := rm.units; omega⟩ ((c.h0.trans st₁).trans st₂)) (fun v s₃ zP => ?_) fun _ _ z => z
  obtain ⟨h₃, tk₃, e₃, st₃, er⟩ := zP
  subst e₃ er
  exact ⟨h₃, tk₃, rfl, (st₁.trans st₂).trans st₃, .str _ _⟩

theorem hkCall_ok (CL : ClOk prog w mg mb K H0 C.addr k T) (S : Snd prog w H0 C k r) (c : Cx C H0 U env ρ s.heap) (rm : Room A k) {x m : Str} {xp ap cp : Pos} {args : List Expr} {d : PyData} (q : hkCall T r env.scope ρ x (.Name x xp, m, ap, args, [], cp) = some d) :
    wpAny (model prog w) A (eval (.Call (.Attribute (.Name x xp) m ap) args [] cp) env) (EvPost U s d) NoE s := by
  unfold hkCall at q
  replace q := iteS q
  have hl := q.1
  rw [Bool.and_eq_true, decide_eq_true_eq] at hl
  obtain ⟨ps, hp, q1⟩ := Option.bind_eq_some_iff.mp q.2
  obtain ⟨ds, hds, q2⟩ := Option.bind_eq_some_iff.mp q1
  obtain ⟨ent, y, l, vs, hx, hv, Hy, L, R⟩ := pairs_at c hp
  obtain ⟨f, M, hf⟩ := CL.rd _ _ _ _ q2
  refine meth_call CL.cls rfl (form_L hds hl.2) hl.1 (look_load c.fn hx hv ⟨y, l, f, rfl, c.h0, Hy, M, ?_⟩)
  refine wpAny_mono (evalArgs_L S rm _ ds s c hds) (fun x s₁ zP => ?_) fun _ _ z => z
  obtain ⟨ek, h₁, tk₁, e₁, st₁, rr⟩ := zP
  subst e₁
  refine ⟨c.h0.trans st₁, ?_⟩
  rw [ek]
  exact wpAny_mono (hf A { s with heap := h₁, toks := tk₁ } U y l vs x.pos rm (c.h0.trans st₁) (Hy.stays st₁) (isList_stays st₁ L) (R.stays st₁) (c.stays st₁).fresh rr) (fun _ _ z => evPost_from st₁ z) fun _ _ z => z
theorem hkConv_ok (CL : ClOk prog w mg mb K H0 C.addr k T) (S : Snd prog w H0 C k r) (c : Cx C H0 U env ρ s.heap) (rm : Room A k) {x m : Str} {xp ap cp : Pos} {args : List Expr} {kws : List Keyword} {d : PyData} (q : hkConv T r env.scope ρ x (.Name x xp, m, ap, args, kws, cp) = some d) :
    wpAny (model prog w) A (eval (.Call (.Attribute (.Name x xp) m ap) args kws cp) env) (EvPost U s d) NoE s := by
  unfold hkConv at q
  obtain ⟨kn, hkn, q1⟩ := Option.bind_eq_some_iff.mp q
  obtain ⟨b, kk, bp, kp, hk⟩ := boolKw_eq hkn
  obtain ⟨a, ha, q2⟩ := Option.bind_eq_some_iff.mp q1
  have ha' := arg1_eq ha
  dsimp only at hk ha'
  subst hk ha'
  replace q2 := iteS q2
  have hl := q2.1
  simp only [Bool.and_eq_true, beq_iff_eq, Bool.not_eq_true'] at hl
  obtain ⟨ps, hp, q3⟩ := Option.bind_eq_some_iff.mp q2.2
  obtain ⟨d', hd', q4⟩ := Option.bind_eq_some_iff.mp q3
  exact conv_call CL S c rm (beq_iff_eq.mpr hl.1.1.1.1) hl.1.1.1.2 hl.1.1.2 hl.1.2 hl.2 hp hd' q4
theorem fieldE_ok (CL : ClOk prog w mg mb K H0 C.addr k T) (c : Cx C H0 U env ρ s.heap) {e : Expr} {d : PyData} (q : fieldE env.scope ρ e = some d) : wpAny (model prog w) A (eval e env) (EvPost U s d) NoE s := by
  cases e with
  | Attribute o m p =>
    replace q := iteS q
    have hm := beq_iff_eq.mp q.1
    obtain ⟨x, hx, q1⟩ := Option.bind_eq_some_iff.mp q.2
    obtain ⟨xp, hxp⟩ := nameOfE_eq hx
    subst hm hxp
    cases hl : look env.scope ρ x with
    | none => rw [hl] at q1; exact noSome q1
    | some en =>
      rw [hl] at q1
      cases en with
      | slf ps =>
        cases q1
        obtain ⟨v, hv, y, a, rfl, Hy, R⟩ := c.vars _ _ hl
        exact Attribute_name (look_load c.fn hl hv (field_read CL c.h0 Hy ⟨s.heap, _, rfl, Stays.refl _, R⟩))
      | _ => exact noSome q1
  | _ => exact noSome q
theorem hkE_ok (CL : ClOk prog w mg mb K H0 C.addr k T) {fn : Str → List PyData → Option PyData} : HookOk prog w H0 C ⟨fn, hkE T⟩ k := by
  intro r S ρ e d env A s U q c rm
  replace q : (match callOf e with
    | some c => (nameOfE c.1).bind fun x => if c.2.2.2.2.1.isEmpty then hkCall T r env.scope ρ x c else hkConv T r env.scope ρ x c
    | none => fieldE env.scope ρ e) = some d := q
  cases hc : callOf e with
  | none => rw [hc] at q; exact fieldE_ok CL c q
  | some c' =>
    rw [hc] at q
    obtain ⟨o, m, ap, args, kws, cp⟩ := c'
    have he := callOf_eq hc
    subst he
    obtain ⟨x, hx, q1⟩ := Option.bind_eq_some_iff.mp q
    obtain ⟨xp, hxp⟩ := nameOfE_eq hx
    dsimp only at hxp q1
    subst hxp
    by_cases hk : kws.isEmpty = true
    · rw [if_pos hk] at q1
      have hk' := List.isEmpty_iff.mp hk
      subst hk'
      exact hkCall_ok CL S c rm q1
    · rw [if_neg hk] at q1
      exact hkConv_ok CL S c rm q1

theorem HookOk.or {fn : Str → List PyData → Option PyData} {h1 h2 : EHook} (x : HookOk prog w H0 C ⟨fn, h1⟩ k) (y : HookOk prog w H0 C ⟨fn, h2⟩ k) : HookOk prog w H0 C ⟨fn, fun r sc ρ e => (h1 r sc ρ e).or (h2 r sc ρ e)⟩ k := by
  intro r S ρ e d env A s U q c rm
  have q' : (h1 r env.scope ρ e).or (h2 r env.scope ρ e) = some d := q
  cases z : h1 r env.scope ρ e with
  | none => rw [z] at q'; exact y r S ρ e d env A s U q' c rm
  | some d' => rw [z] at q'; exact x r S ρ e d env A s U (by cases q'; exact z) c rm
end
end Mine

namespace Mine
open PySem PySem.Calls PySem.Spec PyProof.Rows PySem.W PySem.SeqAt

/-! data without a list in it -/
mutual
noncomputable def noL : PyData → Bool
  | .none => true
  | .bool _ => true
  | .int _ => true
  | .str _ => true
  | .tuple ds => noLs ds
  | _ => false
noncomputable def noLs : List PyData → Bool
  | [] => true
  | d :: ds => noL d && noLs ds
end
theorem reads_noL2 {h : Heap} : (∀ v d as, Reads h v d as → noL d = true → as = []) ∧ (∀ vs ds as, ReadsAll h vs ds as → noLs ds = true → as = []) := by
  have c9 : ∀ {d : PyData} {ds : List PyData} {as bs : List Addr}, (noL d = true → as = []) → (noLs ds = true → bs = []) → noLs (d :: ds) = true → as ++ bs = [] := fun i j e => by
    unfold noLs at e
    rw [Bool.and_eq_true] at e
    rw [i e.1, j e.2]; rfl
  exact ⟨fun _ _ _ r => Reads.rec (motive_1 := fun _ d as _ => noL d = true → as = []) (motive_2 := fun _ ds as _ => noLs ds = true → as = []) (fun _ => rfl) (fun _ _ => rfl) (fun _ _ _ => rfl) (fun _ _ _ => rfl) (fun _ _ _ _ _ e => by unfold noL at e; cases e) (fun _ _ _ _ i e => i (by unfold noL at e; exact e)) (fun _ _ _ _ _ _ _ e => by unfold noL at e; cases e) (fun _ => rfl) (fun _ _ i j => c9 i j) r,
    fun _ _ _ r => ReadsAll.rec (motive_1 := fun _ d as _ => noL d = true → as = []) (motive_2 := fun _ ds as _ => noLs ds = true → as = []) (fun _ => rfl) (fun _ _ => rfl) (fun _ _ _ => rfl) (fun _ _ _ => rfl) (fun _ _ _ _ _ e => by unfold noL at e; cases e) (fun _ _ _ _ i e => i (by unfold noL at e; exact e)) (fun _ _ _ _ _ _ _ e => by unfold noL at e; cases e) (fun _ => rfl) (fun _ _ i j => c9 i j) r⟩
theorem reads_noL {h : Heap} {v d as} (r : Reads h v d as) (e : noL d = true) : as = [] := reads_noL2.1 _ _ _ r e
theorem readsAll_noL {h : Heap} {vs ds as} (r : ReadsAll h vs ds as) (e : noLs ds = true) : as = [] := reads_noL2.2 _ _ _ r e
theorem Rep.noL' {U U' : Addr → Prop} {h : Heap} {v : Value} {d : PyData} (x : Rep U h v d) (e : noL d = true) : Rep U' h v d := by
  obtain ⟨as, r, _⟩ := x
  have := reads_noL r e
  subst this
  exact ⟨[], r, fun _ m => nomatch m⟩
theorem RepAll.noL' {U U' : Addr → Prop} {h : Heap} {vs : List Value} {ds : List PyData} (x : RepAll U h vs ds) (e : noLs ds = true) : RepAll U' h vs ds := by
  obtain ⟨as, r, _⟩ := x
  have := readsAll_noL r e
  subst this
  exact ⟨[], r, fun _ m => nomatch m⟩

noncomputable def scalarD : PyData → Bool
  | .none => true
  | .str _ => true
  | _ => false
theorem Rep.scalar {U : Addr → Prop} {h : Heap} {v : Value} {d : PyData} (x : Rep U h v d) (e : scalarD d = true) : v = .none ∨ ∃ y t, v = .str y t := by
  cases d <;> try (cases e; done)
  · exact .inl x.noneInv
  · exact .inr (let ⟨t, q⟩ := x.strInv; ⟨_, t, q⟩)
theorem swapsWith_sub {e o i : Expr} {p : Pos} {line : Nat} {env : Env} : swapsWith e (some (.Subscript o i p)) line env = pure false := by
  cases e <;> rfl

/-! the statements' hooks -/
noncomputable def hdrOf (sc : Scope) (ρ : Rho) (x : Str) : Option (List PyData) := match look sc ρ x with
  | some (.hdr ps) => some ps
  | _ => none
theorem hdrOf_eq {sc : Scope} {ρ : Rho} {x : Str} {ps : List PyData} (q : hdrOf sc ρ x = some ps) : look sc ρ x = some (.hdr ps) := by
  unfold hdrOf at q
  cases hl : look sc ρ x with
  | none => rw [hl] at q; exact noSome q
  | some e =>
    rw [hl] at q
    cases e with
    | hdr ps => cases q; rfl
    | _ => exact noSome q
noncomputable def subOf : Expr → Option (Expr × Expr)
  | .Subscript o i _ => some (o, i)
  | _ => none
theorem subOf_eq {e o i : Expr} (q : subOf e = some (o, i)) : ∃ p, e = .Subscript o i p := by
  cases e with
  | Subscript a b p => cases q; exact ⟨_, rfl⟩
  | _ => exact noSome q
/-- x._headers -/
noncomputable def fieldOf : Expr → Option Str
  | .Attribute o m _ => if m == ("_headers" : Str) then nameOfE o else none
  | _ => none
theorem fieldOf_eq {e : Expr} {x : Str} (q : fieldOf e = some x) : ∃ p p', e = .Attribute (.Name x p) "_headers" p' := by
  cases e with
  | Attribute o m p' =>
    replace q := iteS q
    have hm := beq_iff_eq.mp q.1
    obtain ⟨p, hq⟩ := nameOfE_eq q.2
    subst hm hq
    exact ⟨_, _, rfl⟩
  | _ => exact noSome q
noncomputable def allOf : Expr → Bool
  | .Slice a b c _ => a.isNone && b.isNone && c.isNone
  | _ => false
theorem allOf_eq {e : Expr} (q : allOf e = true) : ∃ p, e = .Slice none none none p := by
  cases e with
  | Slice a b c p =>
    cases a with
    | some _ => cases q
    | none =>
      cases b with
      | some _ => cases q
      | none =>
        cases c with
        | some _ => cases q
        | none => exact ⟨_, rfl⟩
  | _ => cases (show false = true from q)
noncomputable def listD : PyData → Option (List PyData)
  | .list es => some es
  | _ => none
theorem listD_eq {d : PyData} {es : List PyData} (q : listD d = some es) : d = .list es := by
  cases d with
  | list ds => cases q; rfl
  | _ => exact noSome q
section
variable (T : HT) (r : Md → Scope → Rho → Expr → Option PyData) (sc : Scope) (ρ : Rho)
noncomputable def hkDel (x : Str) (i : Expr) : Option (Fl × Rho) := (hdrOf sc ρ x).bind fun ps => (r .value sc ρ i).bind fun d => (T.wr "__delitem__" ps [d]).bind fun q => some (.next, ρ.set x (.hdr q.1))
noncomputable def hkSet (x : Str) (i e : Expr) : Option (Fl × Rho) := if isComp e then none else (hdrOf sc ρ x).bind fun ps => (r .value sc ρ e).bind fun v => (r .value sc ρ i).bind fun d => (T.wr "__setitem__" ps [d, v]).bind fun q => some (.next, ρ.set x (.hdr q.1))
noncomputable def hkMeth (x : Str) (c : CallP) : Option (Fl × Rho) := if (c.2.2.1.endLine == c.2.2.2.2.2.line) && decide (c.2.2.2.1.length < 20) then
  (hdrOf sc ρ x).bind fun ps => (evL r sc ρ c.2.2.2.1).bind fun ds => (T.wr c.2.1 ps ds).bind fun q => if scalarD q.2 then some (.next, ρ.set x (.hdr q.1)) else none else none
noncomputable def hkCnv (e : Expr) : Option (Fl × Rho) := (hkE T r sc ρ e).bind fun d => if scalarD d then some (.next, ρ) else none
noncomputable def hkApp (x : Str) (c : CallP) : Option (Fl × Rho) := (arg1 c.2.2.2.1).bind fun a => if c.2.2.2.2.1.isEmpty && (c.2.2.1.endLine == c.2.2.2.2.2.line) && (c.2.1 == ("append" : Str)) && !isStar a then
  (hdrOf sc ρ x).bind fun ps => (r .value sc ρ a).bind fun d => if ps.length < top then some (.next, ρ.set x (.hdr (ps ++ [d]))) else none else none
noncomputable def hkAll (x : Str) (e : Expr) : Option (Fl × Rho) := (hdrOf sc ρ x).bind fun ps => (r .value sc (ρ.set x (.slf ps)) e).bind fun d => (listD d).bind fun es => if noLs es && decide (ps.length + es.length ≤ top) then some (.next, ρ.set x (.hdr es)) else none
noncomputable def hkSE (e : Expr) : Option (Fl × Rho) := (callOf e).bind fun c => match nameOfE c.1 with
  | some x => if c.2.2.2.2.1.isEmpty then hkMeth T r sc ρ x c else hkCnv T r sc ρ e
  | none => (fieldOf c.1).bind fun x => hkApp r sc ρ x c
noncomputable def hkSA (t e : Expr) : Option (Fl × Rho) := match subOf t with
  | some oi => (match nameOfE oi.1 with
    | some x => hkSet T r sc ρ x oi.2 e
    | none => (fieldOf oi.1).bind fun x => if allOf oi.2 then hkAll r sc ρ x e else none)
  | none => none
end
noncomputable def hkS (T : HT) : SHook := fun r sc ρ st => match st with
  | .Delete ts _ => (arg1 ts).bind fun t => (subOf t).bind fun oi => (nameOfE oi.1).bind fun x => hkDel T r sc ρ x oi.2
  | .Assign ts e _ => (arg1 ts).bind fun t => hkSA T r sc ρ t e
  | .Expr e _ => hkSE T r sc ρ e
  | _ => none

section
variable {prog : Program} {w : World} {A : Around} {E : Value → Shared → Prop} {s : Shared} {env : Env} {C : Cls} {H0 : Heap} {P U : Addr → Prop} {B : Addr → Option Obj} {own : Str → Bool} {X : List (Str × Addr)} {ρ ρ' : Rho} {h h' : Heap} {k : Nat} {mg mb : Str → Option Value} {K : Frag} {T : HT}
variable {r : Md → Scope → Rho → Expr → Option PyData}

/-- a call that may change the pairs of x, made somewhat later -/
theorem wr_use (CL : ClOk prog w mg mb K H0 C.addr k T) (rm : Room A k) (t : St C H0 P B env own X ρ h) {x m : Str} {ps ps' args : List PyData} {d : PyData} (hx : look env.scope ρ x = some (.hdr ps)) (q : T.wr m ps args = some (ps', d)) :
    ∃ f y a, MethAt K H0 C.addr m f ∧ VarHas h env x (.ref y) ∧ HdrAt C.addr h y a ∧ Stays H0 h ∧
      ∀ (s₁ : Shared) (vargs : List Value), Stays h s₁.heap → RepAll (UU P env X) s₁.heap vargs args →
        wpAny (model prog w) A (call (.ref f) (.ref y :: vargs)) (fun r s' => ∃ h' tk, s' = { s₁ with heap := h', toks := tk } ∧ St C H0 P B env own X (ρ.set x (.hdr ps')) h' ∧ Rep (UU P env X) h' r d) NoE s₁ := by
  obtain ⟨v, hv, y, dx, hs, tk, a, vs, n, ⟨rfl, ok⟩, e2, e3, e4, e5, rr⟩ := t.vars x _ hx
  obtain ⟨f, M, hf⟩ := CL.wr _ _ _ _ _ q
  obtain ⟨hb, _⟩ := t.xs _ e4
  have hy : HdrAt C.addr h y a := ⟨dx, hs, tk, t.base _ _ e2, t.base _ _ e3⟩
  have h0 : Stays H0 h := fun b o e => t.base b o (t.h0 b o e)
  refine ⟨f, y, a, M, hv, hy, h0, fun s₁ vargs st₁ ra => ?_⟩
  have t1 := t.stays st₁
  refine wpAny_mono (hf A s₁ (UU P env X) y a vs vargs n rm (h0.trans st₁) (hy.stays st₁) ?_ (st₁ _ _ e5) (rr.stays st₁) (fun z => z.2.2 _ e4 rfl) t1.freshU ra) (fun r s' ⟨h', tk', vs', n', es, kp, ho, r1, r2⟩ => ?_) fun _ _ z => z
  · cases z : H0.get? a with
    | none => rfl
    | some o => have := t.h0 a o z; rw [hb] at this; cases this
  · exact ⟨h', tk', es, (t1.wrHdr hx (hv.stays st₁) e4 kp ho r1).1, r2⟩

theorem exPost_next {h' : Heap} {tk : Nat} (t : St C H0 P B env own X ρ h') : ExPost C H0 P B env own s .next ρ .next { s with heap := h', toks := tk } := ⟨B, X, h', tk, rfl, fun _ _ z => z, t, trivial⟩

inductive AsSlf (C : Cls) (H0 : Heap) (P : Addr → Prop) (env : Env) (X : List (Str × Addr)) (ρ : Rho) (h : Heap) (x : Str) (ps : List PyData) : Prop
  | mk (y a : Addr) (vs : List Value) (n : Nat) (hv : VarHas h env x (.ref y)) (hy : HdrAt C.addr h y a) (e4 : (x, a) ∈ X) (e5 : h.get? a = some (lst vs n)) (rr : RepAll (UU P env X) h vs ps) (c : Cx C H0 (fun b => UU P env X b ∨ b = a) env (ρ.set x (.slf ps)) h)
/-- the frame with x's pairs taken as plain data -/
theorem St.asSlf (t : St C H0 P B env own X ρ h) {x : Str} {ps : List PyData} (hx : look env.scope ρ x = some (.hdr ps)) : AsSlf C H0 P env X ρ h x ps := by
  obtain ⟨v, hv, y, dx, hs, tk, a, vs, n, ⟨rfl, ok⟩, e2, e3, e4, e5, rr⟩ := t.vars x _ hx
  have hy : HdrAt C.addr h y a := ⟨dx, hs, tk, t.base _ _ e2, t.base _ _ e3⟩
  refine ⟨y, a, vs, n, hv, hy, e4, e5, rr, { t.cx with fresh := fun b e => .inl (t.freshU b e), vars := fun z ent e => ?_ }⟩
  rcases look_set e with ⟨rfl, rfl⟩ | ⟨hz, e⟩
  · exact ⟨_, hv, y, a, rfl, hy, .list ⟨_, e5, rfl, n, rfl⟩ (rr.mono fun b u => .inl u) (.inr rfl)⟩
  · obtain ⟨u, hu, he⟩ := t.cx.vars z ent e
    refine ⟨u, hu, ?_⟩
    cases ent with
    | val d => exact Rep.mono (fun b u => .inl u) he
    | own ds => obtain ⟨b, ws, e1, e2, e3⟩ := he; exact ⟨b, ws, e1, e2, e3.mono fun b u => .inl u⟩
    | slf ds => obtain ⟨y', b, e1, e2, e3⟩ := he; exact ⟨y', b, e1, e2, e3.mono fun b u => .inl u⟩
    | kwd => trivial
    | hdr ds => obtain ⟨y', b, ws, e1, e2, e3, e4⟩ := he; exact ⟨y', b, ws, e1, e2, e3, e4.mono fun b u => .inl u⟩

section
variable {fl : Fl} (CL : ClOk prog w mg mb K H0 C.addr k T) (S : Snd prog w H0 C k r) (rm : Room A k) (t : St C H0 P B env (own1 env.scope) X ρ s.heap)
include CL S rm t
theorem hkDel_ok {x : Str} {i : Expr} {xp p : Pos} {pos : Pos} (q : hkDel T r env.scope ρ x i = some (fl, ρ')) : Runs prog w A C H0 P B env s fl ρ' (.Delete [.Subscript (.Name x xp) i p] pos) := by
  replace q := Option.bind_eq_some_iff.mp q
  obtain ⟨ps, hx, q⟩ := q
  have hx := hdrOf_eq hx
  replace q := Option.bind_eq_some_iff.mp q
  obtain ⟨d, hd, q⟩ := q
  replace q := Option.bind_eq_some_iff.mp q
  obtain ⟨⟨ps', d'⟩, hw, q⟩ := q
  cases q
  obtain ⟨f, y, a, M, hv, hy, h0, hf⟩ := wr_use CL rm t hx hw
  refine wpAny_Delete (wpAny_deleteEach_cons (wpAny_delete_Subscript (look_load t.fn hx hv ?_)))
  refine thenV ((S _ _ _ _ _ _ _ _ rfl t.cx rm).1 hd) fun vi h₁ tk₁ st₁ ri => ?_
  refine delItem_hdr (s := { s with heap := h₁, toks := tk₁ }) CL.cls M (h0.trans st₁) (hy.stays st₁) ?_
  refine wpAny_mono (hf { s with heap := h₁, toks := tk₁ } [vi] st₁ (.cons ri .nil)) (fun r s' zP => ?_) fun _ _ z => z
  obtain ⟨h', tk', es, t', _⟩ := zP
  subst es
  exact wpAny_deleteEach_nil (exPost_next t')

theorem hkSet_ok {x : Str} {i e : Expr} {xp p : Pos} {pos : Pos} (q : hkSet T r env.scope ρ x i e = some (fl, ρ')) : Runs prog w A C H0 P B env s fl ρ' (.Assign [.Subscript (.Name x xp) i p] e pos) := by
  unfold hkSet at q
  split at q
  · cases q
  · rename_i hc
    replace q := Option.bind_eq_some_iff.mp q
    obtain ⟨ps, hx, q⟩ := q
    have hx := hdrOf_eq hx
    replace q := Option.bind_eq_some_iff.mp q
    obtain ⟨v, hv', q⟩ := q
    replace q := Option.bind_eq_some_iff.mp q
    obtain ⟨d, hd, q⟩ := q
    replace q := Option.bind_eq_some_iff.mp q
    obtain ⟨⟨ps', d'⟩, hw, q⟩ := q
    cases q
    obtain ⟨f, y, a, M, hv, hy, h0, hf⟩ := wr_use CL rm t hx hw
    refine wpAny_Assign_Subscript (thenV ((S _ _ _ _ _ _ _ _ rfl t.cx rm).1 hv') fun ve h₁ tk₁ st₁ re => ?_) (swapsWith_other (by simpa using hc))
    refine look_load (s := { s with heap := h₁, toks := tk₁ }) t.fn hx (hv.stays st₁) ?_
    refine thenV ((S _ _ _ _ _ _ { s with heap := h₁, toks := tk₁ } _ rfl (t.stays st₁).cx rm).1 hd) fun vi h₂ tk₂ st₂ ri => ?_
    refine setItem_hdr (s := { s with heap := h₂, toks := tk₂ }) CL.cls M (h0.trans (st₁.trans st₂)) (hy.stays (st₁.trans st₂)) ?_
    refine wpAny_mono (hf { s with heap := h₂, toks := tk₂ } [vi, ve] (st₁.trans st₂) (.cons ri (.cons (re.stays st₂) .nil))) (fun r s' zP => ?_) fun _ _ z => z
    obtain ⟨h', tk', es, t', _⟩ := zP
    subst es
    exact exPost_next t'

theorem hkMeth_ok {x m : Str} {xp ap cp pos : Pos} {args : List Expr} (q : hkMeth T r env.scope ρ x (.Name x xp, m, ap, args, [], cp) = some (fl, ρ')) : Runs prog w A C H0 P B env s fl ρ' (.Expr (.Call (.Attribute (.Name x xp) m ap) args [] cp) pos) := by
  unfold hkMeth at q
  replace q := iteS q
  obtain ⟨hl, q⟩ := q
  rw [Bool.and_eq_true, decide_eq_true_eq] at hl
  replace q := Option.bind_eq_some_iff.mp q
  obtain ⟨ps, hx, q⟩ := q
  have hx := hdrOf_eq hx
  replace q := Option.bind_eq_some_iff.mp q
  obtain ⟨ds, hds, q⟩ := q
  replace q := Option.bind_eq_some_iff.mp q
  obtain ⟨⟨ps', d'⟩, hw, q⟩ := q
  split at q
  rotate_left
  · cases q
  rename_i hsc
  cases q
  obtain ⟨f, y, a, M, hv, hy, h0, hf⟩ := wr_use CL rm t hx hw
  refine wpAny_Expr (meth_call CL.cls rfl (form_L hds hl.2) hl.1 (look_load t.fn hx hv ⟨y, a, f, rfl, h0, hy, M, ?_⟩)) (inter_false t.fn) rfl
  refine wpAny_mono (evalArgs_L S rm _ ds s t.cx hds) (fun x s₁ zP => ?_) fun _ _ z => z
  obtain ⟨ek, h₁, tk₁, e₁, st₁, rr⟩ := zP
  subst e₁
  refine ⟨h0.trans st₁, ?_⟩
  rw [ek]
  refine wpAny_mono (hf _ x.pos st₁ rr) (fun r s' zP => ?_) fun _ _ z => z
  obtain ⟨h', tk', es, t', rd⟩ := zP
  subst es
  rcases rd.scalar hsc with rfl | ⟨y', t9, rfl⟩
  · exact exPost_next t'
  · exact exPost_next t'

theorem hkCnv_ok {f : Expr} {args : List Expr} {kws : List Keyword} {cp : Pos} {pos : Pos} (q : hkCnv T r env.scope ρ (.Call f args kws cp) = some (fl, ρ')) : Runs prog w A C H0 P B env s fl ρ' (.Expr (.Call f args kws cp) pos) := by
  replace q := Option.bind_eq_some_iff.mp q
  obtain ⟨d, hd, q⟩ := q
  split at q
  rotate_left
  · cases q
  rename_i hsc
  cases q
  refine wpAny_Expr (wpAny_mono (hkE_ok (fn := fun _ _ => none) CL r S _ _ d _ A s _ hd t.cx rm) (fun v s' zP => ?_) fun _ _ z => z) (inter_false t.fn) rfl
  obtain ⟨h', tk', es, st', rd⟩ := zP
  subst es
  rcases rd.scalar hsc with rfl | ⟨y', t9, rfl⟩
  · exact exPost_next (t.stays st')
  · exact exPost_next (t.stays st')

theorem hkApp_ok {x m : Str} {xp hp ap cp pos : Pos} {args : List Expr} {kws : List Keyword} (q : hkApp r env.scope ρ x (.Attribute (.Name x xp) "_headers" hp, m, ap, args, kws, cp) = some (fl, ρ')) : Runs prog w A C H0 P B env s fl ρ' (.Expr (.Call (.Attribute (.Attribute (.Name x xp) "_headers" hp) m ap) args kws cp) pos) := by
  unfold hkApp at q
  replace q := Option.bind_eq_some_iff.mp q
  obtain ⟨aE, ha, q⟩ := q
  have ha' : args = [aE] := arg1_eq ha
  subst ha'
  replace q := iteS q
  obtain ⟨hl, q⟩ := q
  simp only [Bool.and_eq_true, beq_iff_eq, Bool.not_eq_true', List.isEmpty_iff] at hl
  obtain ⟨⟨⟨hk, hline⟩, hm⟩, hs⟩ := hl
  subst hk hm
  replace q := Option.bind_eq_some_iff.mp q
  obtain ⟨ps, hx, q⟩ := q
  have hx := hdrOf_eq hx
  replace q := Option.bind_eq_some_iff.mp q
  obtain ⟨d, hd, q⟩ := q
  replace q := iteS q
  obtain ⟨hlen, q⟩ := q
  cases q
  obtain ⟨y, a, vs, n, hv, hy, hX, ha, rr, _⟩ := t.asSlf hx
  have h0 : Stays H0 s.heap := fun b o e => t.base b o (t.h0 b o e)
  have hbt : backTo cp (starEach [aE] env) = [(false, eval aE env)] := by rw [star_cons hs]; rfl
  refine wpAny_Expr (wpAny_Call_method_lateS rfl (by rw [hbt]; rfl) (beq_iff_eq.mpr hline) (Attribute_name (look_load t.fn hx hv (field_read CL h0 hy ?_)))) (inter_false t.fn) rfl
  rw [hbt]
  refine ⟨"list", "list.append", PySem.F.plainAttrs_list, PySem.F.slot_list_append, PySem.F.type_list_append, ⟨_, ha, rfl⟩, fun a' e' => by cases e'; exact ⟨_, ha, rfl⟩, PySem.P.append_list ?_⟩
  refine thenV (s := { s with toks := s.toks + 1 }) ((S _ _ _ _ _ _ { s with toks := s.toks + 1 } _ rfl t.cx rm).1 hd) fun v' h' tk st rp => ?_
  obtain ⟨n', hn'⟩ := upd_lst (st _ _ ha) (fun xs => xs.push v')
  refine ⟨vs.toArray, n, ?_, st _ _ ha, ?_⟩
  · rw [List.size_toArray, rr.length]; exact Nat.le_trans (Nat.le_of_lt hlen) top_le
  · have r' : RepAll (UU P env X) h' (vs.toArray.push v').toList (ps ++ [d]) := by simpa using (rr.stays st).append (.cons rp .nil)
    have hsb := Heap.SameBut.update h' a (Obj.mapSeq fun xs => xs.push v')
    have lv := (t.stays st).mutX hX hsb hn'
    refine exPost_next (s := s) (tk := tk) ((t.stays st).wrHdr hx (hv.stays st) hX (fun b o q e => (hsb.2 b q).trans e) hn' (lv.1.all r')).1

theorem hkAll_ok {x : Str} {e : Expr} {xp hp sp p pos : Pos} (q : hkAll r env.scope ρ x e = some (fl, ρ')) : Runs prog w A C H0 P B env s fl ρ' (.Assign [.Subscript (.Attribute (.Name x xp) "_headers" hp) (.Slice none none none sp) p] e pos) := by
  unfold hkAll at q
  replace q := Option.bind_eq_some_iff.mp q
  obtain ⟨ps, hx, q⟩ := q
  have hx := hdrOf_eq hx
  replace q := Option.bind_eq_some_iff.mp q
  obtain ⟨d, hd, q⟩ := q
  replace q := Option.bind_eq_some_iff.mp q
  obtain ⟨es, he, q⟩ := q
  have he := listD_eq he
  subst he
  replace q := iteS q
  obtain ⟨hq, q⟩ := q
  rw [Bool.and_eq_true, decide_eq_true_eq] at hq
  cases q
  obtain ⟨y, a, vs, n, hv, hy, hX, ha, rr, c'⟩ := t.asSlf hx
  have h0 : Stays H0 s.heap := fun b o e => t.base b o (t.h0 b o e)
  refine wpAny_Assign_Subscript (thenV ((S _ _ _ _ _ _ _ _ rfl c' rm).1 hd) fun ve h₁ tk₁ st₁ re => ?_) swapsWith_sub
  refine Attribute_name (look_load (s := { s with heap := h₁, toks := tk₁ }) t.fn hx (hv.stays st₁) (field_read (s := { s with heap := h₁, toks := tk₁ }) CL (h0.trans st₁) (hy.stays st₁) ?_))
  refine wpAny_Slice ?_
  rw [evalPart_none]
  refine wpAny_pure (wpAny_pure (wpAny_pure ?_))
  obtain ⟨b, ws, rfl, hb, rw', _⟩ := re.listInv
  have st₂ : Stays h₁ (h₁.push { cls := .type "slice", data := .fields #[.none, .none, .none] }) := stays_push _ _
  refine setAll_lst (s := { s with heap := h₁.push { cls := .type "slice", data := .fields #[.none, .none, .none] }, toks := tk₁ + 1 }) (st₂ _ _ (st₁ _ _ ha)) (Heap.IsSliceOf.new ..) (isList_stays st₂ hb) ?_ fun h' n' hn' hs => ?_
  · rw [rr.length, rw'.length]; exact hq.2
  · have r1 : RepAll (UU P env X) (h₁.push { cls := .type "slice", data := .fields #[.none, .none, .none] }) ws es := (rw'.noL' hq.1).stays st₂
    have t1 := t.stays (st₁.trans st₂)
    have lv := t1.mutX hX hs hn'
    exact exPost_next (s := s) (tk := tk₁ + 1) (t1.wrHdr hx (hv.stays (st₁.trans st₂)) hX (fun b o q e => (hs.2 b q).trans e) hn' (lv.1.all r1)).1

theorem hkSE_ok {e : Expr} {pos : Pos} (q : hkSE T r env.scope ρ e = some (fl, ρ')) : Runs prog w A C H0 P B env s fl ρ' (.Expr e pos) := by
  replace q := Option.bind_eq_some_iff.mp q
  obtain ⟨⟨o, m, ap, args, kws, cp⟩, hc, q⟩ := q
  have he := callOf_eq hc
  clear hc
  subst he
  split at q
  · rename_i x hx
    obtain ⟨xp, hxp⟩ := nameOfE_eq hx
    have ho : o = .Name x xp := hxp
    subst ho
    split at q
    · rename_i hk
      have hk' : kws = [] := List.isEmpty_iff.mp hk
      subst hk'
      exact hkMeth_ok CL S rm t q
    · exact hkCnv_ok CL S rm t q
  · replace q := Option.bind_eq_some_iff.mp q
    obtain ⟨x, hx, q⟩ := q
    obtain ⟨p, p', hp⟩ := fieldOf_eq hx
    have ho : o = _ := hp
    subst ho
    exact hkApp_ok CL S rm t q

theorem hkSA_ok {tg e : Expr} {pos : Pos} (q : hkSA T r env.scope ρ tg e = some (fl, ρ')) : Runs prog w A C H0 P B env s fl ρ' (.Assign [tg] e pos) := by
  have q0 : (match subOf tg with
    | some oi => (match nameOfE oi.1 with
      | some x => hkSet T r env.scope ρ x oi.2 e
      | none => (fieldOf oi.1).bind fun x => if allOf oi.2 then hkAll r env.scope ρ x e else none)
    | none => none) = some (fl, ρ') := q
  cases hoi : subOf tg with
  | some oi =>
    rw [hoi] at q0
    obtain ⟨o, i⟩ := oi
    obtain ⟨p, hp⟩ := subOf_eq hoi
    subst hp
    dsimp only at q0
    cases hx : nameOfE o with
    | some x =>
      rw [hx] at q0
      obtain ⟨xp, rfl⟩ := nameOfE_eq hx
      exact hkSet_ok CL S rm t q0
    | none =>
      rw [hx] at q0
      obtain ⟨x, hf, q1⟩ := Option.bind_eq_some_iff.mp q0
      obtain ⟨p1, p', rfl⟩ := fieldOf_eq hf
      obtain ⟨ha, q2⟩ := iteS q1
      obtain ⟨sp, rfl⟩ := allOf_eq ha
      exact hkAll_ok CL S rm t q2
  | none =>
    rw [hoi] at q0
    exact noSome q0
end

theorem hkS_ok (CL : ClOk prog w mg mb K H0 C.addr k T) : StmtOk prog w C H0 k (hkS T) := by
  intro r S _ ρ ρ' st fl env A s P B X q t rm
  show Runs prog w A C H0 P B env s fl ρ' st
  cases st with
  | Delete ts pos =>
    obtain ⟨tg, ht, q1⟩ := Option.bind_eq_some_iff.mp q
    have ht := arg1_eq ht
    subst ht
    obtain ⟨⟨o, i⟩, hoi, q2⟩ := Option.bind_eq_some_iff.mp q1
    obtain ⟨p, hp⟩ := subOf_eq hoi
    subst hp
    obtain ⟨x, hx, q3⟩ := Option.bind_eq_some_iff.mp q2
    obtain ⟨xp, hxp⟩ := nameOfE_eq hx
    have ho : o = .Name x xp := hxp
    subst ho
    exact hkDel_ok CL S rm t q3
  | Assign ts e pos =>
    obtain ⟨tg, ht, q1⟩ := Option.bind_eq_some_iff.mp q
    have ht := arg1_eq ht
    subst ht
    exact hkSA_ok CL S rm t q1
  | Expr e pos => exact hkSE_ok CL S rm t q
  | _ => exact noSome q
end
end Mine

namespace Mine
open PySem PySem.Calls PySem.Spec PyProof.Rows PySem.W PySem.SeqAt

/-! a method's contract from the evaluation of its body -/
noncomputable def hdrL : Option Ent → Option (List PyData)
  | some (.hdr ps) => some ps
  | _ => none
noncomputable def noneVal (xs : List Str) : List (Str × Value) := xs.map fun x => (x, Value.none)
noncomputable def noneEnt (xs : List Str) : Rho := xs.map fun x => (x, Ent.val .none)
/-- what a method's call binds: self, its arguments, and the names whose default is None -/
noncomputable def methBinds (y : Value) (xs ex : List Str) (vals : List Value) : List (Str × Value) := ("self", y) :: (xs.zip vals ++ noneVal ex)
noncomputable def methRho (e : Ent) (xs ex : List Str) (args : List PyData) : Rho := ("self", e) :: (rho0 xs args ++ noneEnt ex)

section
variable {prog : Program} {w : World} {A : Around} {s : Shared} {env : Env} {C : Cls} {H0 : Heap} {k : Nat} {mg mb : Str → Option Value} {K : Frag} {Ca : Addr}
variable {Φ : Tab} {srt : PyData → Option PyData} {mu : List Str} {N : Nat} {sh : SHook}

structure MethFn (H0 : Heap) (f : Addr) (xs ex : List Str) (body : List Stmt) (sc : Scope) : Prop where
  has : ∃ fd, FunAt H0 f fd ∧ plainFd fd ∧ fd.scope = sc ∧ fd.body = .stmts body ∧
    ∀ s : Shared, Stays H0 s.heap → ∀ self vals, vals.length = xs.length → BindsTo s fd ⟨self :: vals, []⟩ (methBinds self xs ex vals)
  dist : distinct (("self" : Str) :: (xs ++ ex)) = true
  own : (("self" : Str) :: (xs ++ ex)).all (own1 sc) = true
  vself : isVar (sc.names.lookup ("self" : Str)) = true

theorem bind_names (y : Value) {xs ex : List Str} {vals : List Value} (h : vals.length = xs.length) : (methBinds y xs ex vals).map (·.1) = ("self" : Str) :: (xs ++ ex) := by
  unfold methBinds noneVal
  rw [List.map_cons, List.map_append, List.map_map, List.map_fst_zip (Nat.le_of_eq h.symm)]
  simp [Function.comp_def]
theorem bind_all {p : Str → Bool} (y : Value) {xs ex : List Str} {vals : List Value} (h : vals.length = xs.length) (e : (("self" : Str) :: (xs ++ ex)).all p = true) : (methBinds y xs ex vals).all (fun z => p z.1) = true := by
  rw [← bind_names y h, List.all_map] at e
  exact e

theorem lookup_none_ent {ex : List Str} {x : Str} {ent : Ent} (e : (noneEnt ex).lookup x = some ent) : ent = .val .none ∧ (x, Value.none) ∈ noneVal ex := by
  have m := mem_of_lookup e
  unfold noneEnt at m
  obtain ⟨y, hy, q⟩ := List.mem_map.mp m
  cases q
  exact ⟨rfl, List.mem_map.mpr ⟨x, hy, rfl⟩⟩
theorem lookup_rho0 {U : Addr → Prop} {h : Heap} {x : Str} {ent : Ent} : ∀ {xs : List Str} {args : List PyData} {vs : List Value}, RepAll U h vs args → (rho0 xs args).lookup x = some ent → ∃ v d, ent = .val d ∧ Rep U h v d ∧ (x, v) ∈ xs.zip vs
  | [], _, _, _, e => by cases e
  | _ :: _, [], _, _, e => by cases e
  | _ :: _, _ :: _, [], r, _ => by have := r.length; simp at this
  | y :: xs, d :: args, v :: vs, r, e => by
    have e' : ((y, Ent.val d) :: rho0 xs args : Rho).lookup x = some ent := e
    rw [List.lookup_cons] at e'
    cases hxy : x == y with
    | true =>
      rw [hxy] at e'
      cases e'
      exact ⟨v, d, rfl, r.head, by rw [beq_iff_eq.mp hxy]; exact List.mem_cons_self⟩
    | false =>
      rw [hxy] at e'
      obtain ⟨v', d', h1, h2, h3⟩ := lookup_rho0 r.tail e'
      exact ⟨v', d', h1, h2, List.mem_cons_of_mem _ h3⟩

theorem methRho_has {U : Addr → Prop} {h : Heap} {x : Str} {e0 ent : Ent} {y : Value} {xs ex : List Str} {args : List PyData} {vs : List Value} (r : RepAll U h vs args) (e : (methRho e0 xs ex args).lookup x = some ent) :
    (x = "self" ∧ ent = e0) ∨ ∃ v d, ent = .val d ∧ Rep U h v d ∧ (x, v) ∈ methBinds y xs ex vs := by
  unfold methRho at e
  rw [List.lookup_cons] at e
  cases hxy : x == ("self" : Str) with
  | true =>
    rw [hxy] at e
    cases e
    exact .inl ⟨beq_iff_eq.mp hxy, rfl⟩
  | false =>
    rw [hxy] at e
    rcases lookup_append' e with e | ⟨_, e⟩
    · obtain ⟨v, d, h1, h2, h3⟩ := lookup_rho0 r e
      exact .inr ⟨v, d, h1, h2, List.mem_cons_of_mem _ (List.mem_append_left _ h3)⟩
    · obtain ⟨h1, h2⟩ := lookup_none_ent e
      exact .inr ⟨.none, .none, h1, .none', List.mem_cons_of_mem _ (List.mem_append_right _ h2)⟩

/-- the body's outcome -/
noncomputable def outOf (sc : Scope) : Option (Fl × Rho) → Option (PyData × Option (List PyData))
  | some (.ret d, ρ') => some (d, hdrL (look sc ρ' "self"))
  | some (.next, ρ') => some (.none, hdrL (look sc ρ' "self"))
  | _ => none
noncomputable def runM (r : Md → Scope → Rho → Expr → Option PyData) (sh : SHook) (mu : List Str) (n : Nat) (xs ex : List Str) (body : List Stmt) (sc : Scope) (e0 : Ent) (args : List PyData) : Option (PyData × Option (List PyData)) :=
  if args.length = xs.length then outOf sc (exs r mu sc sh n body (methRho e0 xs ex args)) else none

theorem meth_rd (PS : ∀ ok, SpecOk prog w mg H0 ⟨Ca, ok⟩ Φ k) (T : SortOk prog w srt) (G : Ground0 mg mb H0) (SH : ∀ ok, StmtOk prog w ⟨Ca, ok⟩ H0 k sh) {f : Addr} {xs ex : List Str} {body : List Stmt} {sc : Scope} (MF : MethFn H0 f xs ex body sc)
    {n : Nat} {ps args : List PyData} {d : PyData} (q : (runM (ev Φ srt N) sh mu n xs ex body sc (.slf ps) args).map (·.1) = some d) (hd : noL d = true)
    {A : Around} {s : Shared} {U : Addr → Prop} {y a : Addr} {vs vargs : List Value} (rm : Room A (k + 1)) (hst : Stays H0 s.heap) (Hy : HdrAt Ca s.heap y a) (ha : s.heap.IsList a vs.toArray)
    (rr : RepAll U s.heap vs ps) (fr : ∀ b, s.heap.get? b = none → U b) (ra : RepAll U s.heap vargs args) :
    wpAny (model prog w) A (call (.ref f) (.ref y :: vargs)) (EvPost U s d) NoE s := by
  obtain ⟨fd, FA, hfd, rfl, hbody, hbind⟩ := MF.has
  unfold runM at q
  split at q
  rotate_left
  · cases q
  rename_i hlen
  have hvl : vargs.length = xs.length := ra.length.trans hlen
  obtain ⟨dx, hs, tk, hy1, hy2⟩ := Hy
  refine wpAny_call (entry_st (C := ⟨Ca, fun _ _ => True⟩) (B0 := fun b => s.heap.get? b) (P := fun b => U b ∨ b = a) (X0 := []) (ρ0 := methRho (.slf ps) xs ex args) FA hst hbody hfd (by have := rm.depth; omega) G.nolimit
    (hbind s hst _ _ hvl) (by rw [bind_names _ hvl]; exact MF.dist) (bind_all _ hvl MF.own) hst (fun _ _ z => z) (fun b e => .inl (fr b e)) (fun _ h => nomatch h) (fun _ h => nomatch h) (fun _ h => nomatch h) ?_ ?_)
  · intro x ent e
    have up : ∀ b, U b → (U b ∨ b = a) ∧ ∀ p ∈ ([] : List (Str × Addr)), p.2 ≠ b := fun b hb => ⟨.inl hb, fun p hp => nomatch hp⟩
    rcases methRho_has (y := .ref y) ra e with ⟨rfl, rfl⟩ | ⟨v, d', rfl, r1, r2⟩
    · exact ⟨.ref y, List.mem_cons_self, y, dx, hs, tk, a, ⟨rfl, trivial⟩, hy1, hy2, .list ha (rr.mono up) ⟨.inr rfl, fun p hp => nomatch hp⟩⟩
    · exact ⟨v, r2, r1.mono up⟩
  · intro env h1 tk1 henv t st1 _
    have hS : env.scope = fd.scope := by rw [henv]; rfl
    have rm' : Room (A.deeper env) k := ⟨rm.handled, by have := rm.depth; show A.depth + 1 + k < _; omega, by have := rm.units; show A.units + 3 + 200 + 10 * k < _; omega⟩
    cases hx : exs (ev Φ srt N) mu fd.scope sh n body (methRho (.slf ps) xs ex args) with
    | none => rw [hx] at q; cases q
    | some z =>
      obtain ⟨fl, ρ'⟩ := z
      rw [hx] at q
      have main := exs_ok (PS _) T G rm' (SH _) n body (methRho (.slf ps) xs ex args) fl ρ' (fun b => s.heap.get? b) [] { s with heap := h1, toks := tk1 } (by rw [hS]; exact hx) t
      refine wpAny_mono main (fun g s' zP => ?_) fun _ _ z => z.elim
      obtain ⟨B2, X2, h2, tk2, e2, sub, t2, hfl⟩ := zP
      subst e2
      have keep : Stays s.heap h2 := fun b o e => t2.base b o (sub b o e)
      cases fl with
      | next =>
        cases g <;> try exact hfl.elim
        cases q
        exact ⟨h2, tk2, rfl, keep, .none'⟩
      | ret d' =>
        cases g <;> try exact hfl.elim
        cases q
        exact ⟨h2, tk2, rfl, keep, Rep.noL' hfl hd⟩
      | brk => cases q
      | cont => cases q

/-- a method that gives back a copy of the pairs' list: def items(self): return self._headers[:] -/
theorem meth_items {Φ : Tab} {T : HT} {fn : Str → List PyData → Option PyData} (CL : ClOk prog w mg mb K H0 Ca k T) {f : Addr} {sc : Scope} {p1 p2 p3 p4 p5 : Pos} (MF : MethFn H0 f [] [] [.Return (some (.Subscript (.Attribute (.Name "self" p1) "_headers" p2) (.Slice none none none p3) p4)) p5] sc)
    {A : Around} {s : Shared} {U : Addr → Prop} {y a : Addr} {ps : List PyData} {vs : List Value} (rm : Room A (k + 1)) (hst : Stays H0 s.heap) (Hy : HdrAt Ca s.heap y a) (ha : s.heap.IsList a vs.toArray)
    (rr : RepAll U s.heap vs ps) (fr : ∀ b, s.heap.get? b = none → U b) (hlen : ps.length ≤ top) :
    wpAny (model prog w) A (call (.ref f) [.ref y]) (EvPost U s (.list ps)) NoE s := by
  obtain ⟨fd, FA, hfd, rfl, hbody, hbind⟩ := MF.has
  have Hy2 := Hy
  obtain ⟨dx, hs, tk, hy1, hy2⟩ := Hy2
  refine wpAny_call (entry_st (C := ⟨Ca, fun _ _ => True⟩) (B0 := fun b => s.heap.get? b) (P := fun _ => True) (X0 := []) (ρ0 := []) FA hst hbody hfd (by have := rm.depth; omega) CL.g.nolimit
    (hbind s hst (.ref y) [] rfl) (by rw [bind_names (xs := []) (ex := []) (vals := []) _ rfl]; exact MF.dist) (bind_all (xs := []) (ex := []) (vals := []) _ rfl MF.own) hst (fun _ _ z => z) (fun _ _ => trivial) (fun _ h => nomatch h) (fun _ h => nomatch h) (fun _ h => nomatch h) (fun _ _ h => nomatch h) ?_)
  intro env h1 tk1 henv t st1 vars
  have hv := vars _ List.mem_cons_self
  have hF : env.scope.kind = .function := t.fn
  refine wpAny_execs_cons (wpAny_Return_some (Subscript_ (Attribute_name (load_has hF (by decide +kernel) (by decide +kernel) hv (field_read (C := ⟨Ca, fun _ _ => True⟩) (s := { s with heap := h1, toks := tk1 }) CL (hst.trans st1) (Hy.stays st1) ?_)))))
  refine wpAny_Slice ?_
  rw [evalPart_none]
  refine wpAny_pure (wpAny_pure (wpAny_pure ?_))
  obtain ⟨es, q', z⟩ := cut_ok (prog := prog) (w := w) (A := A.deeper env) (s := { s with heap := h1, toks := tk1 }) (U := U) (value := .Attribute (.Name "self" p1) "_headers" p2) (slice := .Slice none none none p3) (d := .list ps) (e := .list (cutL ps none none)) (x := .ref a)
    ⟨a, vs, rfl, isList_stays st1 ha, rr.stays st1⟩ .none .none .none (by show (if ps.length ≤ top then some _ else none) = _; rw [if_pos hlen]) (tk1 + 1)
  cases q'
  refine wpAny_mono z (fun v s' y => ?_) fun _ _ y => y
  have y2 := EvPostF.plain (s := { s with heap := h1, toks := tk1 }) (fun b e => fr b (none_of_stays st1 e)) y
  have ec : cutL ps none none = ps := by unfold cutL; simp
  rw [ec] at y2
  exact evPost_from st1 y2
end
end Mine

namespace Mine
open PySem PySem.Calls PySem.Spec PyProof.Rows PySem.W PySem.SeqAt

/-! an object is made: __init__ -/
structure MakeAt (K : Frag) (Ca : Addr) (f : Addr) : Prop where
  makes : makesIn K Ca = true
  init : findIn K (.ref Ca) "__init__" = some (some (.ref f))
  ity : typeIn K (.ref f) = some (.type "function")
  plain : plainOver K Ca = true
  taker : takerIn K Ca "_headers" = some none
  has : (clsIn K Ca).any (·.hasDict) = true
  setattr : findIn K (.ref Ca) "__setattr__" = some (some (.builtin "object.__setattr__"))

section
variable {prog : Program} {w : World} {A : Around} {s : Shared} {env : Env} {C : Cls} {H0 : Heap} {k : Nat} {mg mb : Str → Option Value} {K : Frag} {Ca : Addr} {P : Addr → Prop} {B : Addr → Option Obj} {own : Str → Bool} {ρ : Rho} {h h' : Heap}
variable {Φ : Tab} {srt : PyData → Option PyData} {mu : List Str} {N : Nat} {sh : SHook} {T : HT}

theorem ns_eq {a : Addr} {m m' : Str → Option Value} (x : h.Ns a m) (y : h.Ns a m') : m = m' := by
  obtain ⟨o, es, ep, ho, hd, _, hf⟩ := x
  obtain ⟨o2, es2, ep2, ho2, hd2, _, hf2⟩ := y
  rw [ho] at ho2; cases ho2; rw [hd] at hd2; cases hd2
  funext z
  rw [← hf, hf2]

theorem St.mk0 (fn : env.scope.kind = .function) (gl : env.globals = mainGlobals) (bl : env.builtins = builtinsNs) (hc : env.cells = []) (hk : ∀ x, env.kindOf x ≠ some .cell ∧ env.kindOf x ≠ some .free)
    (h0 : ∀ a o, H0.get? a = some o → B a = some o) (base : ∀ a o, B a = some o → h.get? a = some o) (ns : ∃ m, h.Ns env.locals m) (bL : B env.locals = none)
    (vars : ∀ x ent, look env.scope ρ x = some ent → ∃ v, VarHas h env x v ∧ EntS C B (UU (fun _ => True) env []) [] h x v ent) :
    St C H0 (fun _ => True) B env (own1 env.scope) [] ρ h where
  fn := fn
  gl := gl
  bl := bl
  h0 := h0
  base := base
  fresh := fun _ _ => trivial
  ns := ns
  bL := bL
  mine := fun x hx => by
    unfold own1 at hx
    split at hx
    · rename_i e; exact .inl e
    · rename_i e; exact absurd e (hk x).1
    · cases hx
  apart := fun x y c hx => by rw [hc] at hx; cases hx
  cells := fun x hx => hx.elim (fun e => absurd e (hk x).1) fun e => absurd e (hk x).2
  isCell := fun x c hx => by rw [hc] at hx; cases hx
  xs := fun _ hp => nomatch hp
  xp := fun _ hp => nomatch hp
  xnd := fun _ hp => nomatch hp
  xfn := fun _ hp => nomatch hp
  vars := vars

inductive InitBody (loop : Stmt) (body : List Stmt) : Prop
  | mk (p1 p2 p3 p4 p5 p6 p7 p8 q1 q2 q3 q4 q5 q6 a1 a2 a3 a4 d1 d2 : Pos) (kk : _) (rs : List Stmt) (kd : _) (hb : body = [
      .Assign [.Name "headers" p1] (.IfExp (.Compare (.Name "headers" p2) [.IsNot] [.Constant .none kk p3] p4) (.Name "headers" p5) (.List [] p6) p7) p8,
      .If (.Compare (.Call (.Name "type" q1) [.Name "headers" q2] [] q3) [.IsNot] [.Name "list" q4] q5) rs [] q6,
      .Assign [.Attribute (.Name "self" a1) "_headers" a2] (.Name "headers" a3) a4,
      .If (.Constant (.bool true) kd d1) [loop] [] d2])
structure InitFn (H0 : Heap) (f : Addr) (sc : Scope) (loop : Stmt) : Prop where
  has : ∃ fd, FunAt H0 f fd ∧ plainFd fd ∧ fd.scope = sc ∧ (∃ body, fd.body = .stmts body ∧ InitBody loop body) ∧
    ∀ s : Shared, Stays H0 s.heap → ∀ self v, BindsTo s fd ⟨[self, v], []⟩ [("self", self), ("headers", v)]
  nocell : sc.names.all (fun p => !(p.2 == .cell) && !(p.2 == .free)) = true
  o1 : own1 sc "self" = true
  o2 : own1 sc "headers" = true
  g1 : sc.names.lookup ("type" : Str) = some .globalImplicit
  g2 : sc.names.lookup ("list" : Str) = some .globalImplicit

theorem init_ok (PS : SpecOk prog w mg H0 ⟨Ca, fun _ _ => True⟩ Φ k) (TS : SortOk prog w srt) (G : Ground1 mg mb H0) (SH : StmtOk prog w ⟨Ca, fun _ _ => True⟩ H0 k sh) (CK : ClsAt K H0 Ca) {f : Addr} (MA : MakeAt K Ca f) {sc : Scope} {loop : Stmt} (IF : InitFn H0 f sc loop)
    {n : Nat} {ps : List PyData} {ρ2 : Rho} (q : exs (ev Φ srt N) [] sc sh n [loop] [("headers", .val (.list ps)), ("self", .slf ps)] = some (.next, ρ2))
    {y dx l : Addr} {U : Addr → Prop} {vs : List Value} (rm : Room A (k + 1)) (hst : Stays H0 s.heap) (hy : s.heap.get? y = some (instObj Ca dx)) (hdx : s.heap.get? dx = some emptyDict) (hdx0 : H0.get? dx = none) (hl : s.heap.IsList l vs.toArray) (rr : RepAll U s.heap vs ps) (hno : noLs ps = true) :
    codeAny (model prog w) A (.call (.ref f) ⟨[.ref y, .ref l], []⟩) (fun r s' => r = .ok (.ret .none) ∧ ∃ h' tk hs t, s' = { s with heap := h', toks := tk } ∧ (∀ b o, b ≠ dx → s.heap.get? b = some o → h'.get? b = some o) ∧ h'.get? dx = some (dictOf [⟨hs, .str "_headers" t, .ref l⟩] 1)) s := by
  obtain ⟨fd, FA, hfd, rfl, ⟨_, hbody, p1, p2, p3, p4, p5, p6, p7, p8, q1, q2, q3, q4, q5, q6, a1, a2, a3, a4, d1, d2, kk, rs, kd, rfl⟩, hbind⟩ := IF.has
  have hyd : y ≠ dx := fun z => by rw [z, hdx] at hy; exact absurd (show Value.type "dict" = Value.ref Ca from congrArg Obj.cls (Option.some.inj hy)) (by intro z; cases z)
  have hld : l ≠ dx := fun z => by
    obtain ⟨o, ho, hc, _⟩ := hl
    rw [z, hdx] at ho
    cases ho
    exact absurd (show Value.type "dict" = Value.type "list" from hc) (by decide)
  have hdis : distinct ([(("self" : Str), Value.ref y), ("headers", .ref l)].map (·.1)) = true := by
    show distinct [("self" : Str), "headers"] = true
    decide +kernel
  have hown : ([(("self" : Str), Value.ref y), ("headers", .ref l)].all fun p => own1 fd.scope p.1) = true := by
    show (own1 fd.scope "self" && (own1 fd.scope "headers" && true)) = true
    rw [IF.o1, IF.o2]; rfl
  refine entry_st (C := ⟨Ca, fun _ _ => True⟩) (B0 := fun b => if b = dx then none else s.heap.get? b) (P := fun _ => True) (X0 := []) (ρ0 := []) FA hst hbody hfd (by have := rm.depth; omega) G.nolimit
    (hbind s hst (.ref y) (.ref l)) hdis hown ?_ ?_ (fun _ _ => trivial) (fun _ h => nomatch h) (fun _ h => nomatch h) (fun _ h => nomatch h) (fun _ _ h => nomatch h) ?_
  · intro b o e
    have : b ≠ dx := fun z => by rw [z, hdx0] at e; cases e
    rw [if_neg this]; exact hst b o e
  · intro b o e
    split at e
    · cases e
    · exact e
  intro env h1 tk1 henv t st1 vars
  have hS : env.scope = fd.scope := by rw [henv]; rfl
  have eL : env.locals = s.heap.objs.size := by rw [henv]; rfl
  have hF : env.scope.kind = .function := t.fn
  have hself := vars _ List.mem_cons_self
  have hhead := vars _ (List.mem_cons_of_mem _ List.mem_cons_self)
  have gi : ∀ f : Str, fd.scope.names.lookup f = some .globalImplicit → env.scope.names.lookup f = some .globalImplicit := fun f e => by rw [hS]; exact e
  have hkinds : ∀ x, env.kindOf x ≠ some .cell ∧ env.kindOf x ≠ some .free := fun x => by
    have hk : env.kindOf x = fd.scope.names.lookup x := by rw [henv]; rfl
    have key : ∀ kd, fd.scope.names.lookup x = some kd → kd ≠ .cell ∧ kd ≠ .free := fun kd e => by
      have := List.all_eq_true.mp IF.nocell _ (mem_of_lookup e)
      rw [Bool.and_eq_true, Bool.not_eq_true', Bool.not_eq_true'] at this
      exact ⟨fun z => by rw [z] at this; simp at this, fun z => by rw [z] at this; simp at this⟩
    exact ⟨fun e => (key _ (hk ▸ e)).1 rfl, fun e => (key _ (hk ▸ e)).2 rfl⟩
  have hcells : env.cells = [] := by
    cases z : env.cells with
    | nil => rfl
    | cons p r =>
      exfalso
      have ec : env.cells = cellsFrom (s.heap.objs.size + 1) fd.scope.names [] := by rw [henv]; rfl
      have hm : p ∈ cellsFrom (s.heap.objs.size + 1) fd.scope.names [] := by rw [← ec, z]; exact List.mem_cons_self
      obtain ⟨hc, _⟩ := cellsFrom_mem fd.scope.names _ p.1 p.2 hm
      have := List.all_eq_true.mp IF.nocell _ hc
      simp at this
  -- headers = headers if headers is not None else []
  refine wpAny_execs_cons (wpAny_Assign_Name (wpAny_IfExp (wpAny_isTrue_Compare1 (load_has hF (by decide +kernel) (by decide +kernel) hhead ?_) (by rfl))) (by rfl))
  refine wpAny_mono (const_ok (U := U) (s := { s with heap := h1, toks := tk1 }) (d := .none) rfl) (fun v s₂ zP => ?_) fun _ _ z => z.elim
  obtain ⟨h₂, tk₂, e₂, st₂, rb⟩ := zP
  subst e₂
  have := rb.noneInv
  subst this
  refine wpAny_isNot_plain (by rfl) (wpAny_truthy_bool ?_)
  have e1 : (!(Value.ref l == Value.none)) = true := by rfl
  rw [e1]
  dsimp only [if_true]
  refine load_has hF (by decide +kernel) (by decide +kernel) (hhead.stays st₂) ?_
  have t2 := t.stays st₂
  refine wpAny_mono (store_raw (s := { s with heap := h₂, toks := tk₂ }) (x := "headers") (v := .ref l) (Q := fun _ s' => ∃ h' tk b, s' = { s with heap := h', toks := tk } ∧ Heap.SameBut b h₂ h' ∧ (if b = dx then none else s.heap.get? b) = none ∧ (∃ m, h'.Ns env.locals m) ∧ VarHas h' env "headers" (.ref l) ∧ VarHas h' env "self" (.ref y) ∧ b ≠ dx) t2 (by rw [hS]; exact IF.o2) ?_) ?_ fun _ _ z => z.elim
  · intro h' tk b hs hb _ _ hbk hns _ hvx hoth
    refine ⟨h', tk, b, rfl, hs, hb, hns, hvx, hoth "self" _ (by decide +kernel) (hself.stays st₂), ?_⟩
    have hdx2 : h₂.get? dx = some emptyDict := st₂ _ _ (st1 _ _ hdx)
    rcases hbk with z | ⟨u, o, ho, hd⟩
    · intro e
      rw [z, eL] at e
      exact Nat.lt_irrefl _ (e ▸ Heap.lt_size hdx)
    · intro e
      rw [e, hdx2] at ho
      cases ho
      cases hd
  rintro _ s' ⟨h3, tk3, b3, rfl, hs3, hb3, ⟨m3, hns3⟩, hh3, hv3, hne3⟩
  have keep3 : ∀ b o, b ≠ dx → s.heap.get? b = some o → h3.get? b = some o := fun b o hb e => (hs3.2 b fun z => by
    rw [if_neg hne3, ← z, e] at hb3; cases hb3).trans (st₂ _ _ (st1 _ _ e))
  have hdx3 : h3.get? dx = some emptyDict := (hs3.2 dx (Ne.symm hne3)).trans (st₂ _ _ (st1 _ _ hdx))
  have h03 : Stays H0 h3 := fun b o e => keep3 b o (fun z => by rw [z, hdx0] at e; cases e) (hst b o e)
  have all3 : Stays s.heap h3 := fun b o e => by
    by_cases z : b = dx
    · rw [z] at e ⊢; rw [hdx] at e; cases e; exact hdx3
    · exact keep3 b o z e
  have g3 : ∀ Q : Value → Shared → Prop, ∀ (f : Str) (p : Pos) (v : Value), fd.scope.names.lookup f = some .globalImplicit → (f == ("__debug__" : Str)) = false → (mg f = none ∧ mb f = some v) → Q v { s with heap := h3, toks := tk3 } → wpAny (model prog w) (A.deeper env) (eval (.Name f p) env) Q NoE { s with heap := h3, toks := tk3 } := fun Q f p v hk hd hv q =>
    Name_function_global hF (gi f hk) (loadGlobal_builtin (by rw [t.gl]; exact ns_stays h03 G.g) hv.1 (by rw [t.bl]; exact ns_stays h03 G.b) hv.2 q) hd
  -- if type(headers) is not list
  refine wpAny_execs_cons (wpAny_If (wpAny_isTrue_Compare1 (Call_ (g3 _ "type" q1 _ IF.g1 (by decide +kernel) G.type_ ?_)) (by rfl)))
  refine callWith_type1 (wpAny_items_cons (load_has (s := { s with heap := h3, toks := tk3 }) hF (by decide +kernel) (by decide +kernel) hh3 (wpAny_items_nil ?_)))
  refine call_type_of (s := { s with heap := h3, toks := tk3 }) (Tx := "list") (isList_stays all3 hl).typeIs (by decide +kernel) ?_
  refine g3 _ "list" q4 _ IF.g2 (by decide +kernel) G.list ?_
  refine wpAny_isNot_plain (by rfl) (wpAny_truthy_bool ?_)
  rw [beq_self_eq_true]
  rw [if_neg (by simp)]
  refine wpAny_execs_nil ?_
  -- self._headers = headers
  refine wpAny_execs_cons (plainObj_wpAny_Assign_Attribute (load_has (s := { s with heap := h3, toks := tk3 }) hF (by decide +kernel) (by decide +kernel) hh3 (load_has (s := { s with heap := h3, toks := tk3 }) hF (by decide +kernel) (by decide +kernel) hv3 ?_)) (by rfl))
  have F3 : Fr (hideAll s.heap [dx]) env.locals h3 m3 := ⟨hns3, fun b o e => keep3 b o (fun z => by rw [hideAll_none [dx] (by rw [z]; exact List.mem_singleton.mpr rfl)] at e; cases e) (of_hideAll _ e), by rw [hideAll_size, eL]; exact Nat.le_refl _⟩
  have N3 : News (hideAll s.heap [dx]) env.locals h3 ([] ++ (dx, emptyDict) :: []) := fun p hp => by
    rcases List.mem_singleton.mp hp with rfl
    refine ⟨hdx3, fun z => ?_, hideAll_none [dx] (List.mem_singleton.mpr rfl)⟩
    have z' : dx = env.locals := z
    rw [eL] at z'
    exact Nat.lt_irrefl _ (z' ▸ Heap.lt_size hdx)
  have I3 : InstAt h3 y (instObj Ca dx) Ca (some emptyDict) := ⟨all3 _ _ hy, rfl, rfl, hdx3⟩
  refine set_plain (s := { s with heap := h3, toks := tk3 }) (CK.X.keeps h03) I3 MA.setattr ?_
  refine osa_dict (s := { s with heap := h3, toks := tk3 + 1 }) (od' := dictOf [⟨PyData.keyHash w.params "_headers", .str "_headers" (tk3 + 1), .ref l⟩] 1) F3 N3 (CK.X.keeps h03) I3 rfl MA.plain MA.taker MA.has rfl (fun _ hp => nomatch hp) (fun _ hp => nomatch hp) rfl rfl (by simp) ?_
  intro h4 F4 N4
  have hdx4 := (N4 _ List.mem_cons_self).1
  have keep4 : ∀ b o, b ≠ dx → s.heap.get? b = some o → h4.get? b = some o := fun b o hb e => F4.keep b o (hideAll_get [dx] e (fun z => hb (List.mem_singleton.mp z)))
  have h04 : Stays H0 h4 := fun b o e => keep4 b o (fun z => by rw [z, hdx0] at e; cases e) (hst b o e)
  have var4 : ∀ x v, VarHas h3 env x v → VarHas h4 env x v := fun x v hv => by
    rcases hv with ⟨hk, m, n, e⟩ | ⟨hk, _⟩
    · rw [ns_eq n hns3] at e
      exact .inl ⟨hk, m3, F4.ns, e⟩
    · exact (hk.elim (hkinds x).1 (hkinds x).2).elim
  -- the loop
  refine wpAny_execs_cons (wpAny_If (wpAny_isTrue_value (wpAny_mono (const_ok (U := U) (s := { s with heap := h4, toks := tk3 + 1 + 1 }) (d := .bool true) rfl) (fun v s₅ zP => ?_) fun _ _ z => z.elim)))
  obtain ⟨h₅, tk₅, e₅, st₅, rb⟩ := zP
  subst e₅
  have := rb.boolInv
  subst this
  refine wpAny_truthy_bool ?_
  rw [if_pos rfl]
  have t4 : St ⟨Ca, fun _ _ => True⟩ H0 (fun _ => True) (fun b => if b = dx then some (dictOf [⟨PyData.keyHash w.params "_headers", .str "_headers" (tk3 + 1), .ref l⟩] 1) else s.heap.get? b) env (own1 env.scope) [] [("headers", .val (.list ps)), ("self", .slf ps)] h4 := by
    refine St.mk0 hF t.gl t.bl hcells hkinds ?_ ?_ ⟨_, F4.ns⟩ ?_ ?_
    · intro b o e
      have : b ≠ dx := fun z => by rw [z, hdx0] at e; cases e
      rw [if_neg this]; exact hst b o e
    · intro b o e
      split at e
      · rename_i z; cases e; rw [z]; exact hdx4
      · rename_i z; exact keep4 b o z e
    · have : env.locals ≠ dx := fun z => by rw [eL] at z; exact Nat.lt_irrefl _ (z ▸ Heap.lt_size hdx)
      rw [if_neg this, eL]
      exact new_none _
    · have low : ∀ b o, s.heap.get? b = some o → UU (fun _ => True) env [] b := fun b o e => ⟨trivial, fun z => by rw [z, eL] at e; exact Nat.lt_irrefl _ (Heap.lt_size e), fun _ hp => nomatch hp⟩
      have rep4 : RepAll (UU (fun _ => True) env []) h4 vs ps := by
        obtain ⟨as, ra, _⟩ := rr
        have eas := readsAll_noL ra hno
        subst eas
        have hsb : Heap.SameBut dx (h4.update dx fun _ => emptyDict) h4 := ⟨by rw [Heap.size_update], fun b q => (Heap.get?_update_ne _ _ _ _ q).symm⟩
        have st4 : Stays s.heap (h4.update dx fun _ => emptyDict) := fun b o e => by
          by_cases z : b = dx
          · rw [z] at e ⊢; rw [hdx] at e; cases e; exact Heap.get?_update_self (fun _ => emptyDict) hdx4 rfl
          · rw [Heap.get?_update_ne _ _ _ _ z]; exact keep4 b o z e
        have nt' : NoTup (h4.update dx fun _ => emptyDict) dx := fun o vs n e c _ => by
          rw [st4 _ _ hdx] at e; cases e; exact absurd (show Value.type "dict" = Value.type "tuple" from c) (by decide)
        exact ⟨[], readsAll_but hsb nt' (readsAll_stays st4 ra) (fun m => nomatch m), fun _ m => nomatch m⟩
      have repL : Rep (UU (fun _ => True) env []) h4 (.ref l) (.list ps) := by
        obtain ⟨o, ho, hc, n, hd⟩ := hl
        exact .list ⟨o, keep4 l o hld ho, hc, n, hd⟩ rep4 (low l o ho)
      intro x ent e
      unfold look at e
      split at e
      rotate_left
      · cases e
      rw [List.lookup_cons] at e
      cases hxh : x == ("headers" : Str) with
      | true =>
        rw [hxh] at e
        cases e
        rw [beq_iff_eq.mp hxh]
        exact ⟨_, var4 _ _ hh3, repL⟩
      | false =>
        rw [hxh] at e
        dsimp only at e
        rw [List.lookup_cons] at e
        cases hxs : x == ("self" : Str) with
        | true =>
          rw [hxs] at e
          cases e
          rw [beq_iff_eq.mp hxs]
          exact ⟨_, var4 _ _ hv3, y, dx, _, _, l, ⟨rfl, trivial⟩, (if_neg hyd).trans hy, if_pos rfl, repL⟩
        | false => rw [hxs] at e; cases e
  have rm' : Room (A.deeper env) k := ⟨rm.handled, by have := rm.depth; show A.depth + 1 + k < _; omega, by have := rm.units; show A.units + 3 + 200 + 10 * k < _; omega⟩
  have main := exs_ok PS TS G.toGround0 rm' SH n [loop] [("headers", .val (.list ps)), ("self", .slf ps)] .next ρ2 _ [] { s with heap := h₅, toks := tk₅ } (by rw [hS]; exact q) (t4.stays st₅)
  refine wpAny_mono main (fun g s' zP => ?_) fun _ _ z => z.elim
  obtain ⟨B5, X5, h5, tk5, e5, sub, t5, hfl⟩ := zP
  subst e5
  cases g <;> try exact hfl.elim
  refine wpAny_execs_nil ⟨rfl, h5, tk5, _, _, rfl, fun b o hb e => t5.base b o (sub b o ((if_neg hb).trans e)), t5.base dx _ (sub dx _ (if_pos rfl))⟩
end
end Mine

namespace Mine
open PySem PySem.Calls PySem.Spec PyProof.Rows PySem.W PySem.SeqAt

/-! x = Headers(list(e)) -/
noncomputable abbrev gcallOf := callName
theorem gcallOf_eq {e a : Expr} {c : Str} (q : gcallOf e = some (c, a)) : ∃ p p', e = .Call (.Name c p) [a] [] p' := callName_eq q
noncomputable def hkNew (cn : Str) (ini : List PyData → Bool) : SHook := fun r sc ρ st => match st with
  | .Assign ts e _ => (arg1 ts).bind fun t => (nameOfE t).bind fun x => (gcallOf e).bind fun ca => if (ca.1 == cn) && (sc.names.lookup ca.1 == some .globalImplicit) && okName ca.1 && own1 sc x && isFresh ca.2 && !isStar ca.2 then
      (r .value sc ρ ca.2).bind fun d => (listD d).bind fun ps => if ini ps then some (.next, ρ.set x (.hdr ps)) else none else none
  | _ => none

section
variable {prog : Program} {w : World} {A : Around} {s : Shared} {env : Env} {C : Cls} {H0 : Heap} {P : Addr → Prop} {B B' : Addr → Option Obj} {own : Str → Bool} {X : List (Str × Addr)} {ρ : Rho} {h h' : Heap} {k : Nat} {mg mb : Str → Option Value} {K : Frag} {Ca : Addr}

/-- what making an object leaves -/
noncomputable def NewOk (prog : Program) (w : World) (H0 : Heap) (Ca : Addr) (k : Nat) (ini : List PyData → Bool) : Prop := ∀ (A : Around) (s : Shared) (U : Addr → Prop) (l : Addr) (vs : List Value) (ps : List PyData), ini ps = true → Room A k → Stays H0 s.heap → s.heap.IsList l vs.toArray → RepAll U s.heap vs ps →
  wpAny (model prog w) A (call (.ref Ca) [.ref l]) (fun r s' => ∃ h' tk y dx hs t, s' = { s with heap := h', toks := tk } ∧ r = .ref y ∧ Stays s.heap h' ∧ s.heap.get? y = none ∧ s.heap.get? dx = none ∧ y ≠ dx ∧ h'.get? y = some (instObj Ca dx) ∧ h'.get? dx = some (dictOf [⟨hs, .str "_headers" t, .ref l⟩] 1)) NoE s

theorem under_room {c : Code} {kk : Nat} (rm : Room A (kk + 1)) (hw : c.weight ≤ 1) (hu : c.cUnits ≤ 10) : Room (A.under c) kk :=
  ⟨rm.handled, by have := rm.depth; show A.depth + c.weight + kk < _; omega, by have := rm.units; show A.units + c.cUnits + 200 + 10 * kk < _; omega⟩

theorem new_ok {Φ : Tab} {srt : PyData → Option PyData} {N : Nat} {sh : SHook} (PS : SpecOk prog w mg H0 ⟨Ca, fun _ _ => True⟩ Φ k) (TS : SortOk prog w srt) (G : Ground1 mg mb H0) (SH : StmtOk prog w ⟨Ca, fun _ _ => True⟩ H0 k sh) (CK : ClsAt K H0 Ca) {f : Addr} (MA : MakeAt K Ca f) {sc : Scope} {loop : Stmt} (IF : InitFn H0 f sc loop)
    {n : Nat} {ini : List PyData → Bool} (q : ∀ ps, ini ps = true → noLs ps = true ∧ ∃ ρ2, exs (ev Φ srt N) [] sc sh n [loop] [("headers", .val (.list ps)), ("self", .slf ps)] = some (.next, ρ2)) : NewOk prog w H0 Ca (k + 2) ini := by
  intro A s U l vs ps hi rm hst hl rr
  obtain ⟨hno, ρ2, q⟩ := q ps hi
  obtain ⟨hh, g, d, tk, os⟩ := s
  have X := CK.X.keeps hst
  refine wpAny_call (make_core (makes_of X MA.makes) (looks_findIn X MA.init) (fun self => bind_fn X self MA.ity) (.inl rfl) ?_)
  have k1 : Stays hh ((hh.push emptyDict).push (instObj Ca hh.objs.size)) := (stays_push _ _).trans (stays_push _ _)
  have hy : ((hh.push emptyDict).push (instObj Ca hh.objs.size)).get? (hh.objs.size + 1) = some (instObj Ca hh.objs.size) := by heap_get
  have hdx : ((hh.push emptyDict).push (instObj Ca hh.objs.size)).get? hh.objs.size = some emptyDict := by heap_get
  have nz : ∀ c, hh.objs.size ≤ c → hh.get? c = none := fun c hc => by
    cases z : hh.get? c with
    | none => rfl
    | some o' => exact absurd (Nat.lt_of_lt_of_le (Heap.lt_size z) hc) (Nat.lt_irrefl _)
  have h0 : H0.get? hh.objs.size = none := by
    cases z : H0.get? hh.objs.size with
    | none => rfl
    | some o => have := hst _ _ z; rw [nz _ (Nat.le_refl _)] at this; cases this
  refine codeAny_mono (init_ok (s := ⟨(hh.push emptyDict).push (instObj Ca hh.objs.size), g, d, tk, os⟩) PS TS G SH CK MA IF q (under_room rm (Nat.le_of_ble_eq_true (by kernel_rfl)) (Nat.le_of_ble_eq_true (by kernel_rfl))) (hst.trans k1) hy hdx h0 (isList_stays k1 hl) (rr.stays k1) hno) ?_
  rintro r s' ⟨rfl, h', tk', hs, t, rfl, keep, hd'⟩
  refine ⟨rfl, h', tk', hh.objs.size + 1, hh.objs.size, hs, t, rfl, rfl, fun b o e => keep b o (fun z => ?_) (k1 b o e), nz _ (Nat.le_succ _), nz _ (Nat.le_refl _), Nat.succ_ne_self _, keep _ _ (Nat.succ_ne_self _) hy, hd'⟩
  rw [z, nz _ (Nat.le_refl _)] at e
  cases e

/-- new objects that may not change are added to those that stand -/
theorem St.growB (t : St C H0 P B env own X ρ h) (st : Stays h h') (sub : ∀ a o, B a = some o → B' a = some o) (base : ∀ a o, B' a = some o → h'.get? a = some o) (new : ∀ a o, B' a = some o → B a = some o ∨ h.get? a = none) : St C H0 P B' env own X ρ h' := by
  have t' := t.stays st
  have old : ∀ a, (∃ o, h.get? a = some o) → B a = none → B' a = none := fun a ⟨o, ho⟩ hb => by
    cases z : B' a with
    | none => rfl
    | some o' =>
      rcases new a o' z with e | e
      · rw [hb] at e; cases e
      · rw [ho] at e; cases e
  refine { t' with h0 := fun a o e => sub a o (t.h0 a o e), base := base, bL := old _ (let ⟨m, o, _, _, ho, _⟩ := t.ns; ⟨o, ho⟩) t.bL, mine := fun x hx => ?_, apart := fun x y c e1 e2 hb => t.apart x y c e1 e2 ?_, xs := fun p hp => ?_, vars := fun x ent e => ?_ }
  · rcases t.mine x hx with q | ⟨a, c, v, e1, e2, e3⟩
    · exact .inl q
    · exact .inr ⟨a, c, v, e1, e2.keeps st, old c (let ⟨o, ho, _⟩ := e2; ⟨o, ho⟩) e3⟩
  · cases z : B c with
    | none => rfl
    | some o => rw [sub c o z] at hb; cases hb
  · obtain ⟨b, l, vs, n, ho⟩ := t.xs p hp
    exact ⟨old _ ⟨_, ho⟩ b, l, vs, n, st _ _ ho⟩
  · obtain ⟨v, hv, he⟩ := t'.vars x ent e
    refine ⟨v, hv, ?_⟩
    cases ent with
    | val d => exact he
    | own ds => exact he
    | slf ds => obtain ⟨y9, dx, hs9, tk9, a9, e1, e2, e3, r⟩ := he; exact ⟨y9, dx, hs9, tk9, a9, e1, sub _ _ e2, sub _ _ e3, r⟩
    | kwd => obtain ⟨d9, e1, e2, e3⟩ := he; exact ⟨d9, e1, sub _ _ e2, e3⟩
    | hdr ds => obtain ⟨y9, dx, hs9, tk9, a9, vs, n, e1, e2, e3, e4, e5, r⟩ := he; exact ⟨y9, dx, hs9, tk9, a9, vs, n, e1, sub _ _ e2, sub _ _ e3, e4, e5, r⟩

/-- an object made anew, stored: the name owns its list -/
theorem store_hdr (t : St C H0 (fun b => P b ∧ b ≠ a) B env own X ρ s.heap) {x : Str} {y dx : Addr} {hs0 : Int} {t0 : Tok} {vs : List Value} {n : Nat} {ds : List PyData} (hx : own x = true) (ha : s.heap.get? a = some (lst vs n)) (hb : B a = none) (hL : a ≠ env.locals) (hX : ∀ p ∈ X, p.2 ≠ a) (hP : P a)
    (hr : RepAll (UU (fun b => P b ∧ b ≠ a) env X) s.heap vs ds) (ok : C.ok y a) (by_ : B y = some (instObj C.addr dx)) (bd : B dx = some (dictOf [⟨hs0, .str "_headers" t0, .ref a⟩] 1)) :
    wpAny (model prog w) A (storeName env x (.ref y)) (fun _ s' => ∃ h' tk, s' = { s with heap := h', toks := tk } ∧ St C H0 P B env own ((x, a) :: dropX X x) (ρ.set x (.hdr ds)) h') NoE s := by
  refine store_raw t hx fun h' tk b hs hb' ⟨ob, hob⟩ hcl hbk hns hmine hvx hvy => ?_
  have hD : Dead (UU (fun b => P b ∧ b ≠ a) env X) s.heap b := by
    rcases hbk with rfl | ⟨u, hi⟩
    · obtain ⟨m, n⟩ := t.ns; exact ⟨noTup_dict n, .inl fun q => q.2.1 rfl⟩
    · exact ⟨noTup_cell hi, .inr ⟨u, hi⟩⟩
  have keep : ∀ c o, s.heap.get? c = some o → (∃ xs n, o.data = .seq xs n) ∨ B c = some o → h'.get? c = some o := fun c o e kk => (hs.2 c fun q => by
    rcases kk with ⟨xs, n, kk⟩ | kk
    · rcases hbk with rfl | ⟨u, o', ho', hd'⟩
      · obtain ⟨m, o', es, ep, ho', hd', _⟩ := t.ns
        rw [q, ho'] at e; cases e; rw [hd'] at kk; cases kk
      · rw [q, ho'] at e; cases e; rw [hd'] at kk; cases kk
    · rw [q, hb'] at kk; cases kk).trans e
  have up : ∀ c, UU (fun b => P b ∧ b ≠ a) env X c → UU P env ((x, a) :: dropX X x) c := fun c u => ⟨u.1.1, u.2.1, fun p hp => by
    rcases List.mem_cons.mp hp with rfl | hp
    · exact Ne.symm u.1.2
    · exact u.2.2 p (mem_dropX.mp hp).1⟩
  refine ⟨h', tk, rfl, { fn := t.fn, gl := t.gl, bl := t.bl, h0 := t.h0, base := fun a o e => keep a o (t.base a o e) (.inr e), fresh := fun c e => (t.fresh c ?_).1, ns := hns, bL := t.bL, mine := hmine, apart := t.apart, cells := t.cells, isCell := fun x c e => let ⟨v, i⟩ := t.isCell x c e; hcl c v i, xs := ?_, xp := ?_, xnd := ?_, xfn := ?_, vars := ?_ }⟩
  · by_cases hcb : c = b
    · subst hcb; rw [e] at hob; cases hob
    · rw [← hs.2 c hcb]; exact e
  · intro p hp
    rcases List.mem_cons.mp hp with rfl | hp
    · exact ⟨hb, hL, vs, n, keep _ _ ha (.inl ⟨_, _, rfl⟩)⟩
    · obtain ⟨a', b', vs', n', e⟩ := t.xs p (mem_dropX.mp hp).1
      exact ⟨a', b', vs', n', keep _ _ e (.inl ⟨_, _, rfl⟩)⟩
  · intro p hp
    rcases List.mem_cons.mp hp with rfl | hp
    · exact hP
    · exact (t.xp p (mem_dropX.mp hp).1).1
  · intro p hp q hq e
    rcases List.mem_cons.mp hp with rfl | hp <;> rcases List.mem_cons.mp hq with rfl | hq
    · rfl
    · exact absurd e.symm (hX q (mem_dropX.mp hq).1)
    · exact absurd e (hX p (mem_dropX.mp hp).1)
    · exact t.xnd p (mem_dropX.mp hp).1 q (mem_dropX.mp hq).1 e
  · intro p hp q hq e
    rcases List.mem_cons.mp hp with rfl | hp <;> rcases List.mem_cons.mp hq with rfl | hq
    · rfl
    · exact absurd e.symm (mem_dropX.mp hq).2
    · exact absurd e (mem_dropX.mp hp).2
    · exact t.xfn p (mem_dropX.mp hp).1 q (mem_dropX.mp hq).1 e
  · intro z ent e
    rcases look_set e with ⟨rfl, rfl⟩ | ⟨hy, e⟩
    · exact ⟨_, hvx, y, dx, hs0, t0, a, vs, n, ⟨rfl, ok⟩, by_, bd, List.mem_cons_self, keep _ _ ha (.inl ⟨_, _, rfl⟩), (hr.dead hD hs).mono up⟩
    · obtain ⟨u, hu, he⟩ := t.vars z ent e
      refine ⟨u, hvy z u hy hu, ?_⟩
      cases ent with
      | val d' => exact (Rep.dead hD hs he).mono up
      | own ds => obtain ⟨a', vs, n, e1, e2, e3, r⟩ := he; exact ⟨a', vs, n, e1, List.mem_cons_of_mem _ (mem_dropX.mpr ⟨e2, hy⟩), keep _ _ e3 (.inl ⟨_, _, rfl⟩), (r.dead hD hs).mono up⟩
      | slf ds => obtain ⟨y9, dx, hs9, tk9, a9, e1, e2, e3, r⟩ := he; exact ⟨y9, dx, hs9, tk9, a9, e1, e2, e3, (Rep.dead hD hs r).mono up⟩
      | kwd => exact he
      | hdr ds =>
        obtain ⟨y', dx', hs', tk', a', vs, n, e1, e2, e3, e4, e5, r⟩ := he
        exact ⟨y', dx', hs', tk', a', vs, n, e1, e2, e3, List.mem_cons_of_mem _ (mem_dropX.mpr ⟨e4, hy⟩), keep _ _ e5 (.inl ⟨_, _, rfl⟩), (r.dead hD hs).mono up⟩

theorem hkNew_ok (G : Ground0 mg mb H0) (CK : ClsAt K H0 Ca) (hk : keepIn K (.ref Ca) = true) {cn : Str} (hcn : mg cn = some (.ref Ca)) {ini : List PyData → Bool} (NW : NewOk prog w H0 Ca k ini) : StmtOk prog w ⟨Ca, fun _ _ => True⟩ H0 k (hkNew cn ini) := by
  intro r S SF ρ ρ' st fl env A s P B X q t rm
  show Runs prog w A ⟨Ca, fun _ _ => True⟩ H0 P B env s fl ρ' st
  cases st with
  | Assign ts e pos =>
    obtain ⟨tg, ht, q1⟩ := Option.bind_eq_some_iff.mp q
    have ht := arg1_eq ht
    subst ht
    obtain ⟨x, hx, q2⟩ := Option.bind_eq_some_iff.mp q1
    obtain ⟨xp, hxp⟩ := nameOfE_eq hx
    subst hxp
    obtain ⟨⟨c, a⟩, hc, q3⟩ := Option.bind_eq_some_iff.mp q2
    obtain ⟨p1, p2, he⟩ := gcallOf_eq hc
    subst he
    obtain ⟨hl, q4⟩ := iteS q3
    simp only [Bool.and_eq_true, beq_iff_eq, Bool.not_eq_true', okName] at hl
    obtain ⟨⟨⟨⟨⟨rfl, hg⟩, hdb, _⟩, hx⟩, hf⟩, hstar⟩ := hl
    obtain ⟨d, hd, q5⟩ := Option.bind_eq_some_iff.mp q4
    replace q := Option.bind_eq_some_iff.mp q5
    obtain ⟨ps, hps, q⟩ := q
    have hps := listD_eq hps
    subst hps
    replace q := iteS q
    obtain ⟨hi, q⟩ := q
    cases q
    refine wpAny_Assign_Name (Call_ (glob_ok G t.cx hg hdb hcn ?_)) rfl
    refine callWith_K CK.X hk ?_ (star_cons hstar) rfl
    refine wpAny_items_cons ?_ (star_cons hstar)
    refine wpAny_mono (SF ρ _ ps env A s _ t.cx rm hf hd) (fun v s₁ zP => ?_) fun _ _ z => z.elim
    obtain ⟨h₁, tk₁, a, vs, n, e₁, st₁, ev, na, ha, rr⟩ := zP
    subst e₁ ev
    have h0 : Stays H0 h₁ := fun b o e => st₁ _ _ (t.base b o (t.h0 b o e))
    refine wpAny_items_nil ⟨CK.X.keeps h0, ?_⟩
    refine wpAny_mono (NW A { s with heap := h₁, toks := tk₁ } _ a vs ps hi rm h0 ⟨_, ha, rfl, n, rfl⟩ rr) (fun r s₂ zP => ?_) fun _ _ z => z.elim
    obtain ⟨h₂, tk₂, y, dx, hs, tt, e₂, er, st₂, ny, nd, yd, hy, hdx⟩ := zP
    subst e₂ er
    have noB : ∀ b, h₁.get? b = none → B b = none := fun b e => by
      cases z : B b with
      | none => rfl
      | some o => have := st₁ _ _ (t.base b o z); rw [e] at this; cases this
    have noB0 : B a = none := by
      cases z : B a with
      | none => rfl
      | some o => have := t.base a o z; rw [na] at this; cases this
    have noL : a ≠ env.locals := fun z => by obtain ⟨m', o, es, ep, ho, _⟩ := t.ns; rw [← z, na] at ho; cases ho
    have noX : ∀ p ∈ X, p.2 ≠ a := fun p hp z => by obtain ⟨_, _, vs', n', ho⟩ := t.xs p hp; rw [z, na] at ho; cases ho
    have t1 := t.avoid na st₁ ⟨_, ha⟩
    have ay : a ≠ y := fun z => by rw [z, ny] at ha; cases ha
    have ad : a ≠ dx := fun z => by rw [z, nd] at ha; cases ha
    have t2 : St ⟨Ca, fun _ _ => True⟩ H0 (fun b => P b ∧ b ≠ a) (fun b => if b = y then some (instObj Ca dx) else if b = dx then some (dictOf [⟨hs, .str "_headers" tt, .ref a⟩] 1) else B b) env (own1 env.scope) X ρ h₂ := by
      refine t1.growB st₂ ?_ ?_ ?_
      · intro b o e
        have b1 : b ≠ y := fun z => by rw [z, noB y ny] at e; cases e
        have b2 : b ≠ dx := fun z => by rw [z, noB dx nd] at e; cases e
        rw [if_neg b1, if_neg b2]; exact e
      · intro b o e
        split at e
        · rename_i z; cases e; rw [z]; exact hy
        · split at e
          · rename_i z; cases e; rw [z]; exact hdx
          · exact st₂ _ _ (st₁ _ _ (t.base b o e))
      · intro b o e
        split at e
        · rename_i z; exact .inr (z ▸ ny)
        · split at e
          · rename_i z; exact .inr (z ▸ nd)
          · exact .inl e
    have hne : ∀ b, b ≠ a → True := fun _ _ => trivial
    refine wpAny_mono (store_hdr (s := { s with heap := h₂, toks := tk₂ }) (a := a) t2 hx (st₂ _ _ ha) (by rw [if_neg ay, if_neg ad]; exact noB0) noL noX (t.fresh a na) ((rr.stays st₂).mono fun b u => ⟨⟨u.1.1, u.2⟩, u.1.2⟩) trivial (if_pos rfl) (by rw [if_neg (Ne.symm yd), if_pos rfl])) (fun _ s' zP => ?_) fun _ _ z => z.elim
    obtain ⟨h3, tk3, e3, t3⟩ := zP
    subst e3
    refine ⟨_, _, h3, tk3, rfl, fun b o e => ?_, t3, trivial⟩
    have b1 : b ≠ y := fun z => by rw [z, noB y ny] at e; cases e
    have b2 : b ≠ dx := fun z => by rw [z, noB dx nd] at e; cases e
    rw [if_neg b1, if_neg b2]; exact e
  | _ => exact noSome q

theorem StmtOk.or {h1 h2 : SHook} (x : StmtOk prog w C H0 k h1) (y : StmtOk prog w C H0 k h2) : StmtOk prog w C H0 k (fun r sc ρ st => (h1 r sc ρ st).or (h2 r sc ρ st)) := by
  intro r S SF ρ ρ' st fl env A s P B X q t rm
  have q' : (h1 r env.scope ρ st).or (h2 r env.scope ρ st) = some (fl, ρ') := q
  cases z : h1 r env.scope ρ st with
  | none => rw [z] at q'; exact y r S SF ρ ρ' st fl env A s P B X q' t rm
  | some d' => rw [z] at q'; exact x r S SF ρ ρ' st fl env A s P B X (by cases q'; exact z) t rm
end
end Mine

namespace Mine
open PySem PySem.Calls PySem.Spec PyProof.Rows PySem.W PySem.SeqAt

/-! the text's functions, found in the program -/
structure Fn where
  body : List Stmt
  scope : Scope
  params : Arguments
noncomputable def fnIn (n : Str) : List Stmt → Option Fn
  | [] => none
  | .FunctionDef m ps body _ _ _ sc .. :: r => if m == n then some ⟨body, sc, ps⟩ else fnIn n r
  | _ :: r => fnIn n r
noncomputable def clIn (n : Str) : List Stmt → List Stmt
  | [] => []
  | .ClassDef m _ _ body .. :: r => if m == n then body else clIn n r
  | _ :: r => clIn n r
noncomputable def noFn : Fn := ⟨[], ⟨.function, [], false, false, []⟩, ⟨[], [], none, [], [], none, []⟩⟩
noncomputable def topFn (p : Program) (n : Str) : Fn := (fnIn n p.main.body).getD noFn
noncomputable def methFn (p : Program) (n : Str) : Fn := (fnIn n (clIn "Headers" p.main.body)).getD noFn

/-- a function object of the written heap -/
noncomputable def fdIn (K : Frag) (a : Addr) : Option FuncData := (K.lookup a).bind fun o => match o.data with | .func fd => some fd | _ => none
noncomputable def fdOf (K : Frag) (a : Addr) : FuncData := (fdIn K a).getD default
theorem funAt_K {K : Frag} {H0 : Heap} {f : Addr} (X : K.In H0) (e : (fdIn K f).isSome = true) (c : codeIn K (fdOf K f).code (fdOf K f).qualname = true) : FunAt H0 f (fdOf K f) := by
  obtain ⟨fd, h⟩ := Option.isSome_iff_exists.mp e
  have hf : fdOf K f = fd := by unfold fdOf; rw [h]; rfl
  unfold fdIn at h
  obtain ⟨o, ho, hd⟩ := Option.bind_eq_some_iff.mp h
  rw [hf] at c ⊢
  refine ⟨⟨o, X _ _ ho, ?_⟩, codeRec_of X c⟩
  split at hd
  · rename_i fd' q; cases hd; exact q
  · cases hd

/-! steps of the evaluators over lists that are not written out -/
section
variable (r : Md → Scope → Rho → Expr → Option PyData)
/-- one item of a comprehension with one clause: nothing known; left out; an item -/
noncomputable def evG1 (scope sc : Scope) (elt : Expr) (g : Comprehension) (ρ : Rho) (d : PyData) : Option (Option PyData) :=
  (bindD g.target d).bind fun b => if b.all fun p => own1 scope p.1 && (ρ.lookup p.1).isNone then
    (evTests r sc (ρ.sets b) g.ifs).bind fun t => if t then (r .value sc (ρ.sets b) elt).map some else some none
  else none
end
section
variable {r : Md → Scope → Rho → Expr → Option PyData}
theorem evG_flat {scope sc : Scope} {elt : Expr} {g : Comprehension} {ρ : Rho} {φ : PyData → Option PyData} : ∀ {ds : List PyData}, (∀ d ∈ ds, evG1 r scope sc elt g ρ d = some (φ d)) → evG r scope sc elt [g] ρ (some ds) = some (ds.filterMap φ)
  | [], _ => rfl
  | d :: ds, h => by
    have ih := evG_flat (scope := scope) (sc := sc) (elt := elt) (g := g) (ρ := ρ) (φ := φ) (ds := ds) fun d' hd' => h d' (List.mem_cons_of_mem _ hd')
    have hd := h d List.mem_cons_self
    unfold evG at ih ⊢
    rw [Option.bind_some] at ih ⊢
    rw [List.foldr_cons, ih]
    unfold evG1 at hd
    obtain ⟨b, hb, hd⟩ := Option.bind_eq_some_iff.mp hd
    rw [hb, Option.bind_some]
    split at hd
    rotate_left
    · cases hd
    rename_i ha
    rw [if_pos ha]
    obtain ⟨t, ht, hd⟩ := Option.bind_eq_some_iff.mp hd
    rw [ht, Option.bind_some]
    rw [List.filterMap_cons]
    cases t with
    | false =>
      simp only [Bool.false_eq_true, if_false] at hd ⊢
      rw [← Option.some.inj hd]
    | true =>
      simp only [if_true] at hd ⊢
      obtain ⟨e, he, hd⟩ := Option.map_eq_some_iff.mp hd
      unfold evG
      rw [he, Option.map_some, Option.bind_some, ← hd]
      rfl
/-- facts of a whole list hold of each of its members -/
theorem of_map_eq {α β : Type} {f g : α → β} {l : List α} (e : l.map f = l.map g) : ∀ a ∈ l, f a = g a := List.map_inj_left.mp e

theorem exL_next {mu : List Str} {sc : Scope} {sh : SHook} {rs : List Stmt → Rho → Option (Fl × Rho)} {st : Stmt} {rest : List Stmt} {ρ ρ1 : Rho} (h : (sh r sc ρ st).or (ex1 r mu sc rs ρ st) = some (.next, ρ1)) :
    exL r mu sc sh rs (st :: rest) ρ = exL r mu sc sh rs rest ρ1 := by
  conv => lhs; unfold exL
  rw [h]; rfl
theorem exL_ret {mu : List Str} {sc : Scope} {sh : SHook} {rs : List Stmt → Rho → Option (Fl × Rho)} {st : Stmt} {rest : List Stmt} {ρ ρ1 : Rho} {d : PyData} (h : (sh r sc ρ st).or (ex1 r mu sc rs ρ st) = some (.ret d, ρ1)) :
    exL r mu sc sh rs (st :: rest) ρ = some (.ret d, ρ1) := by
  conv => lhs; unfold exL
  rw [h]; rfl
theorem forL_next {sc : Scope} {body : Rho → Option (Fl × Rho)} {tg : Expr} {d : PyData} {ds : List PyData} {ρ ρ1 : Rho} {b : List (Str × PyData)} (hb : bindD tg d = some b) (ho : b.all (fun p => own1 sc p.1) = true) (h : body (ρ.sets b) = some (.next, ρ1)) :
    forL sc body tg (d :: ds) ρ = forL sc body tg ds ρ1 := by
  conv => lhs; unfold forL
  rw [hb, Option.bind_some, if_pos ho, h]; rfl
theorem forL_ret {sc : Scope} {body : Rho → Option (Fl × Rho)} {tg : Expr} {d e : PyData} {ds : List PyData} {ρ ρ1 : Rho} {b : List (Str × PyData)} (hb : bindD tg d = some b) (ho : b.all (fun p => own1 sc p.1) = true) (h : body (ρ.sets b) = some (.ret e, ρ1)) :
    forL sc body tg (d :: ds) ρ = some (.ret e, ρ1) := by
  conv => lhs; unfold forL
  rw [hb, Option.bind_some, if_pos ho, h]; rfl
end

theorem forL_inv {r : Md → Scope → Rho → Expr → Option PyData} {sc : Scope} {body : Rho → Option (Fl × Rho)} {tg : Expr} (I : Rho → Prop) : ∀ (ds : List PyData) (ρ : Rho), (∀ d ∈ ds, ∀ ρ, I ρ → ∃ b ρ1, bindD tg d = some b ∧ b.all (fun p => own1 sc p.1) = true ∧ body (ρ.sets b) = some (.next, ρ1) ∧ I ρ1) → I ρ →
    ∃ ρ2, forL sc body tg ds ρ = some (.next, ρ2) ∧ I ρ2
  | [], ρ, _, i => ⟨ρ, rfl, i⟩
  | d :: ds, ρ, h, i => by
    obtain ⟨b, ρ1, h1, h2, h3, i1⟩ := h d List.mem_cons_self ρ i
    rw [forL_next h1 h2 h3]
    exact forL_inv (r := r) I ds ρ1 (fun d' hd' => h d' (List.mem_cons_of_mem _ hd')) i1

noncomputable def forOf : Stmt → Expr × List Stmt
  | .For tg _ b _ _ => (tg, b)
  | _ => (.Constant .none 0 ⟨0, 0, 0, 0⟩, [])
noncomputable def thenOf : Stmt → List Stmt
  | .If _ b _ _ => b
  | _ => []
noncomputable def rhsOf : Stmt → Expr
  | .Assign _ e _ => e
  | .Return (some e) _ => e
  | .Expr e _ => e
  | .AugAssign _ _ e _ => e
  | .If e _ _ _ => e
  | _ => .Constant .none 0 ⟨0, 0, 0, 0⟩
noncomputable def lcOf : Expr → Expr × List Comprehension × Scope
  | .ListComp e g s _ => (e, g, s)
  | e => (e, [], ⟨.function, [], false, false, []⟩)
noncomputable def stAt (l : List Stmt) (n : Nat) : Stmt := l.getD n (.Pass ⟨0, 0, 0, 0⟩)
noncomputable def gAt (g : List Comprehension) : Comprehension := g.headD ⟨.Constant .none 0 ⟨0, 0, 0, 0⟩, .Constant .none 0 ⟨0, 0, 0, 0⟩, [], 0⟩

/-! tables without entries -/
noncomputable def noRd : Str → List PyData → List PyData → Option PyData := fun _ _ _ => none
noncomputable def noWr : Str → List PyData → List PyData → Option (List PyData × PyData) := fun _ _ _ => none
noncomputable def noSrt : PyData → Option PyData := fun _ => none
noncomputable def noFnT : Str → List PyData → Option PyData := fun _ _ => none
noncomputable def T0 : HT := ⟨noRd, noWr, true⟩

section
variable {prog : Program} {w : World} {mg mb : Str → Option Value} {K : Frag} {H0 : Heap} {Ca : Addr} {k k' : Nat} {C : Cls}
theorem Room.mono {A : Around} (x : Room A k') (h : k ≤ k') : Room A k := ⟨x.handled, by have := x.depth; omega, by have := x.units; omega⟩
theorem noSrt_ok : SortOk prog w noSrt := fun _ _ e => nomatch e
theorem noFnT_ok : FnsOk prog w mg H0 ⟨noFnT, h⟩ k := fun _ _ _ e => nomatch e
theorem RdOk.mono {rd} (x : RdOk prog w K H0 Ca k rd) (h : k ≤ k') : RdOk prog w K H0 Ca k' rd := fun m ps args d e => let ⟨f, M, g⟩ := x m ps args d e; ⟨f, M, fun A s U y a vs vargs rm => g A s U y a vs vargs (rm.mono h)⟩
theorem WrOk.mono {wr} (x : WrOk prog w K H0 Ca k wr) (h : k ≤ k') : WrOk prog w K H0 Ca k' wr := fun m ps args ps' d e => let ⟨f, M, g⟩ := x m ps args ps' d e; ⟨f, M, fun A s U y a vs vargs n rm => g A s U y a vs vargs n (rm.mono h)⟩
theorem ClOk.mono {T : HT} (x : ClOk prog w mg mb K H0 Ca k T) (h : k ≤ k') : ClOk prog w mg mb K H0 Ca k' T :=
  ⟨x.cls, x.g, x.rd.mono h, x.wr.mono h, fun e => let ⟨a, b⟩ := x.cv e; ⟨Nat.le_trans a h, b⟩, x.field, x.nofield⟩
theorem NewOk.mono {ini} (x : NewOk prog w H0 Ca k ini) (h : k ≤ k') : NewOk prog w H0 Ca k' ini := fun A s U l vs ps e rm => x A s U l vs ps e (rm.mono h)
end
end Mine

namespace Mine
open PySem PySem.Calls PySem.Spec PyProof.Rows PySem.W PySem.SeqAt

/-! equality of data made of texts alone -/
mutual
noncomputable def strO : PyData → Bool
  | .str _ => true
  | .tuple ds => strOs ds
  | .list ds => strOs ds
  | _ => false
noncomputable def strOs : List PyData → Bool
  | [] => true
  | d :: ds => strO d && strOs ds
end
mutual
theorem eqv_eq : ∀ (a b : PyData), strO a = true → PyData.eqv a b = true → a = b
  | .str x, b, _, h => by
    cases b <;> simp only [PyData.eqv, Bool.false_eq_true] at h
    rw [beq_iff_eq.mp h]
  | .tuple xs, b, o, h => by
    cases b <;> simp only [PyData.eqv, Bool.false_eq_true] at h
    rw [eqvAll_eq xs _ (by unfold strO at o; exact o) h]
  | .list xs, b, o, h => by
    cases b <;> simp only [PyData.eqv, Bool.false_eq_true] at h
    rw [eqvAll_eq xs _ (by unfold strO at o; exact o) h]
  | .none, _, o, _ => by unfold strO at o; cases o
  | .bool _, _, o, _ => by unfold strO at o; cases o
  | .int _, _, o, _ => by unfold strO at o; cases o
  | .dict _, _, o, _ => by unfold strO at o; cases o
theorem eqvAll_eq : ∀ (a b : List PyData), strOs a = true → PyData.eqvAll a b = true → a = b
  | [], b, _, h => by
    cases b with
    | nil => rfl
    | cons => simp only [PyData.eqvAll, Bool.false_eq_true] at h
  | x :: xs, b, o, h => by
    cases b with
    | nil => simp only [PyData.eqvAll, Bool.false_eq_true] at h
    | cons y ys =>
      simp only [PyData.eqvAll, Bool.and_eq_true] at h
      unfold strOs at o
      rw [Bool.and_eq_true] at o
      rw [eqv_eq x y o.1 h.1, eqvAll_eq xs ys o.2 h.2]
end
theorem eqv_iff {a b : PyData} (o : strO a = true) (c : a.canLay0 = true) : PyData.eqv a b = true ↔ a = b :=
  ⟨eqv_eq a b o, fun h => h ▸ PySem.SeqAt.eqv_refl a c⟩
theorem strOs_all : ∀ {ds : List PyData}, (∀ d ∈ ds, strO d = true) → strOs ds = true
  | [], _ => rfl
  | d :: ds, h => by
    unfold strOs
    rw [h d List.mem_cons_self, strOs_all fun d' hd => h d' (List.mem_cons_of_mem _ hd)]; rfl
theorem canLayAll_all : ∀ {ds : List PyData}, (∀ d ∈ ds, d.canLay0 = true) → PyData.canLayAll0 ds = true
  | [], _ => rfl
  | d :: ds, h => by
    unfold PyData.canLayAll0
    rw [h d List.mem_cons_self, canLayAll_all fun d' hd => h d' (List.mem_cons_of_mem _ hd)]; rfl
theorem depthAll_le {n : Nat} : ∀ {ds : List PyData}, (∀ d ∈ ds, d.depth ≤ n) → PyData.depthAll ds ≤ n
  | [], _ => by unfold PyData.depthAll; omega
  | d :: ds, h => by
    unfold PyData.depthAll
    have h1 := h d List.mem_cons_self
    have h2 := depthAll_le (ds := ds) fun d' hd => h d' (List.mem_cons_of_mem _ hd)
    omega
theorem smallD_list {n : Nat} {ds : List PyData} (h1 : ∀ d ∈ ds, d.canLay0 = true) (h2 : ∀ d ∈ ds, d.depth ≤ n) (hn : n ≤ 60) : smallD (.list ds) = true := by
  unfold smallD
  rw [Bool.and_eq_true, decide_eq_true_eq]
  refine ⟨by unfold PyData.canLay0; exact canLayAll_all h1, ?_⟩
  unfold PyData.depth
  have := depthAll_le h2
  omega
theorem cmpNe {a b : PyData} (ha : smallD a = true) (hb : smallD b = true) : cmpD .NotEq a b = some (.bool (!PyData.eqv a b)) := if_pos (by rw [ha, hb]; rfl)
theorem cmpEq {a b : PyData} (ha : smallD a = true) (hb : smallD b = true) : cmpD .Eq a b = some (.bool (PyData.eqv a b)) := if_pos (by rw [ha, hb]; rfl)

end Mine

namespace Mine
open PySem PySem.Calls PySem.Spec PyProof.Rows PySem.W PySem.SeqAt

/-! sorted: the kit's tree of questions, run on plain data -/
noncomputable def kasGo {α : Type} (lt : Nat → Nat → Option Bool) : KasT α → Option α
  | .ret a => some a
  | .ask i j k => (lt i j).bind fun b => kasGo lt (k b)
theorem kasGo_wp {α : Type} {lt : Nat → Nat → Option Bool} {cmp : Nat → Nat → (Bool → Shared → Prop) → Shared → Prop} {s : Shared} (hc : ∀ i j b (C : Bool → Shared → Prop), lt i j = some b → C b s → cmp i j C s) :
    ∀ (t : KasT α) (a : α) (Q : α → Shared → Prop), kasGo lt t = some a → Q a s → t.kasWp cmp Q s
  | .ret a, _, _, e, h => by cases e; exact h
  | .ask i j k, a, Q, e, h => by
    obtain ⟨b, hb, e⟩ := Option.bind_eq_some_iff.mp e
    exact hc i j b _ hb (kasGo_wp hc (k b) a Q e h)

section
variable {prog : Program} {w : World} {A : Around} {s : Shared}

theorem sort_tree {a : Addr} {vs out : List Value} {n : Nat} {P : PySem.Fin → Shared → Prop} {E : Value → Shared → Prop} (ho : s.heap.get? a = some (seqObj "list" vs.toArray n)) (h64 : vs.length < 64) (h1 : vs.length < 2 → out = vs) (hlen : out.length = vs.length)
    (hK : 2 ≤ vs.length → ∀ h', (∀ b o, b ≠ a → s.heap.get? b = some o → h'.get? b = some o) → wpAny (model prog w) A (keyKind' vs.toArray) (fun κ s' => s' = { s with heap := h' } ∧ (kas_sort vs.length).kasWp (kas_ask prog w A κ vs) (fun p s'' => s'' = { s with heap := h' } ∧ (p.toList.map fun i => vs.getD i Value.none) = out) { s with heap := h' }) NoE { s with heap := h' })
    (h : ∀ h' n', (∀ b o, b ≠ a → s.heap.get? b = some o → h'.get? b = some o) → h'.get? a = some (seqObj "list" out.toArray n') → P (.done (.ret .none)) { s with heap := h' }) :
    wpAny (model prog w) A (Builtin.«list.sort» ⟨[.ref a], []⟩) P E s := by
  have ha : a < s.heap.objs.size := Heap.lt_size ho
  obtain ⟨e1, ho1⟩ : ∃ e1, (s.heap.update a (Obj.mapSeq fun _ => (#[] : Array Value))).get? a = some (seqObj "list" #[] e1) := ⟨_, get?_update_seq ho fun _ => #[]⟩
  rw [list_sort_plain]
  refine wpAny_bind (listItems_at ho rfl ?_)
  refine wpAny_bind (listUpdate_at ho rfl ?_ (by rw [List.size_toArray, sizeLine_eq]; omega) (Nat.zero_le _))
  refine wpAny_bind (seqEpoch_at ho1 rfl ?_)
  refine wpAny_bind (wpAny_newTuple ?_ (by show vs.length ≤ _; rw [sizeLine_eq]; omega))
  refine wpAny_bind (wpAny_newList ?_ (Nat.zero_le _))
  refine wpAny_holding ?_
  have ho6 : (((s.heap.update a (Obj.mapSeq fun _ => (#[] : Array Value))).push (seqObj "tuple" vs.toArray 0)).push (seqObj "list" #[] 0)).get? a = some (seqObj "list" #[] e1) := by
    rw [Heap.get?_push_ne _ _ _ (by rw [size_push', Heap.size_update]; exact Nat.ne_of_lt (Nat.lt_succ_of_lt ha)), Heap.get?_push_ne _ _ _ (by rw [Heap.size_update]; exact Nat.ne_of_lt ha)]
    exact ho1
  have keep : ∀ b o, b ≠ a → s.heap.get? b = some o → (((s.heap.update a (Obj.mapSeq fun _ => (#[] : Array Value))).push (seqObj "tuple" vs.toArray 0)).push (seqObj "list" #[] 0)).get? b = some o := fun b o hb e =>
    Heap.get?_push_of_some _ (Heap.get?_push_of_some _ ((Heap.get?_update_ne _ _ _ _ hb).trans e))
  show wpAny (model prog w) A _ P E { s with heap := ((s.heap.update a (Obj.mapSeq fun _ => (#[] : Array Value))).push (seqObj "tuple" vs.toArray 0)).push (seqObj "list" #[] 0) }
  generalize hH : ((s.heap.update a (Obj.mapSeq fun _ => (#[] : Array Value))).push (seqObj "tuple" vs.toArray 0)).push (seqObj "list" #[] 0) = H at ho6 keep ⊢
  clear hH
  dsimp only
  have hsz : vs.toArray.size = vs.length := by simp
  have fin : ∀ arr : Array Value, arr = out.toArray → (∀ b o, b ≠ a → s.heap.get? b = some o → (H.update a (Obj.mapSeq fun _ => arr)).get? b = some o) ∧ ∃ n', (H.update a (Obj.mapSeq fun _ => arr)).get? a = some (seqObj "list" out.toArray n') := by
    rintro arr rfl
    exact ⟨fun b o hb e => (Heap.get?_update_ne _ _ _ _ hb).trans (keep b o hb e), _, get?_update_seq ho6 fun _ => out.toArray⟩
  by_cases h2 : vs.toArray.size < 2
  · rw [if_pos h2, if_pos h2]
    refine wpAny_bind (wpAny_pure ?_)
    rw [StateT.run_pure]
    refine wpAny_bind (wpAny_pure ?_)
    dsimp only
    have hout : (arrOf (SortSt.mk' general' (vs.toArray.zip vs.toArray) #[] 7 none)).map (·.2) = out.toArray := by
      rw [h1 (by omega)]
      show (vs.toArray.zip vs.toArray).map (·.2) = _
      apply Array.toList_inj.mp
      simp only [Array.toList_map, Array.toList_zip]
      exact List.map_snd_zip (Nat.le_refl _)
    obtain ⟨f1, n', f2⟩ := fin _ hout
    refine wpAny_bind (seqEpoch_at ho6 rfl ?_)
    refine wpAny_bind (listUpdate_at ho6 rfl ?_ (Nat.zero_le _) (by rw [hout, List.size_toArray, hlen, sizeLine_eq]; omega))
    simp only [bne_self_eq_false, Bool.false_eq_true, if_false]
    exact wpAny_pure (h _ n' f1 f2)
  · rw [if_neg h2, if_neg h2]
    refine wpAny_bind (wpAny_mono (hK (by omega) H keep) (fun κ s0 hk => ?_) fun _ _ x => x.elim)
    obtain ⟨rfl, hk⟩ := hk
    refine wpAny_bind (wpAny_mono (kat_run (Q := fun st' s' => ∃ p : Array Nat, arrOf st' = p.map (kas_item (vs.toArray.zip vs.toArray)) ∧ failedOf st' = none ∧ s' = { s with heap := H } ∧ (p.toList.map fun i => vs.getD i Value.none) = out)
      rfl (by omega) h64 (fun p' st' s' a1 a2 a3 a4 => ⟨p', a2, a3, a4⟩) hk) ?_ fun _ _ e => e)
    rintro ⟨⟨⟩, st'⟩ s' ⟨p, har, hf, rfl, hp⟩
    dsimp only
    have hout : (arrOf st').map (·.2) = out.toArray := by rw [kat_snds rfl har, hp]
    obtain ⟨f1, n', f2⟩ := fin _ hout
    refine wpAny_bind (seqEpoch_at ho6 rfl ?_)
    refine wpAny_bind (listUpdate_at ho6 rfl ?_ (Nat.zero_le _) (by rw [hout, List.size_toArray, hlen, sizeLine_eq]; omega))
    rw [hf]
    simp only [bne_self_eq_false, Bool.false_eq_true, if_false]
    exact wpAny_pure (h _ n' f1 f2)

theorem sorted_run {l : Addr} {vs out : List Value} {Q : Value → Shared → Prop} {E : Value → Shared → Prop} (hl : s.heap.IsList l vs.toArray) (h64 : vs.length < 64) (h1 : vs.length < 2 → out = vs) (hlen : out.length = vs.length)
    (hK : 2 ≤ vs.length → ∀ h', Stays s.heap h' → wpAny (model prog w) A.in1.in1 (keyKind' vs.toArray) (fun κ s' => s' = { s with heap := h' } ∧ (kas_sort vs.length).kasWp (kas_ask prog w A.in1.in1 κ vs) (fun p s'' => s'' = { s with heap := h' } ∧ (p.toList.map fun i => vs.getD i Value.none) = out) { s with heap := h' }) NoE { s with heap := h' })
    (h : ∀ h' b n, Stays s.heap h' → s.heap.get? b = none → h'.get? b = some (seqObj "list" out.toArray n) → Q (.ref b) { s with heap := h' }) :
    wpAny (model prog w) A (call (.builtin "sorted") [.ref l]) Q E s := by
  refine Calls.call_function_entry kind_sorted plain_sorted entry_sorted (args_sorted1 _) ?_
  unfold Builtin.«sorted»
  refine wpAny_bind (m := checkCount "sorted" 1 1 _) (wpAny_pure ?_)
  refine wpAny_bind (collect_list hl ?_ (by rw [sizeLine_eq]; omega))
  refine wpAny_bind (wpAny_newList ?_ (by rw [sizeLine_eq]; omega))
  have hsz : ((s.heap.push (seqObj "list" #[] 0)).update s.heap.objs.size (Obj.mapSeq (· ++ vs.toArray))).objs.size = s.heap.objs.size + 1 := by
    rw [Heap.size_update, size_push']
  have hoL : (((s.heap.push (seqObj "list" #[] 0)).update s.heap.objs.size (Obj.mapSeq (· ++ vs.toArray))).push (seqObj "list" vs.toArray 0)).get? (s.heap.objs.size + 1) = some (seqObj "list" vs.toArray 0) := by
    rw [← hsz]; exact Heap.get?_push_size _ rfl
  have keep : Stays s.heap (((s.heap.push (seqObj "list" #[] 0)).update s.heap.objs.size (Obj.mapSeq (· ++ vs.toArray))).push (seqObj "list" vs.toArray 0)) := fun b o q => by
    have hlt : b < s.heap.objs.size := Heap.lt_size q
    rw [Heap.get?_push_ne _ _ _ (by rw [hsz]; exact Nat.ne_of_lt (Nat.lt_succ_of_lt hlt)), Heap.get?_update_ne _ _ _ _ (Nat.ne_of_lt hlt), Heap.get?_push_ne _ _ _ (Nat.ne_of_lt hlt)]
    exact q
  show wpAny _ _ _ _ _ { s with heap := ((s.heap.push (seqObj "list" #[] 0)).update s.heap.objs.size (Obj.mapSeq (· ++ vs.toArray))).push (seqObj "list" vs.toArray 0) }
  rw [hsz]
  have old : ∀ h', (∀ b o, b ≠ s.heap.objs.size + 1 → (((s.heap.push (seqObj "list" #[] 0)).update s.heap.objs.size (Obj.mapSeq (· ++ vs.toArray))).push (seqObj "list" vs.toArray 0)).get? b = some o → h'.get? b = some o) → Stays s.heap h' := fun h' k b o e =>
    k b o (Nat.ne_of_lt (Nat.lt_succ_of_lt (Heap.lt_size e))) (keep b o e)
  refine wpAny_bind (wpAny_holding (wpAny_call_entry slot_list_sort ⟨_, hoL, rfl⟩ entry_list_sort ?body (args_list_sort _)))
  case body =>
    refine sort_tree (s := { s with heap := ((s.heap.push (seqObj "list" #[] 0)).update s.heap.objs.size (Obj.mapSeq (· ++ vs.toArray))).push (seqObj "list" vs.toArray 0) }) (out := out) hoL h64 h1 hlen (fun h2 h' k => hK h2 h' (old h' k)) fun h' n' k e => ?_
    exact ⟨_, rfl, wpAny_pure ⟨_, rfl, h h' _ n' (old h' k) (Heap.get?_none_of_le (Nat.le_succ _)) e⟩⟩
end
end Mine

namespace Mine
open PySem PySem.Calls PySem.Spec PyProof.Rows PySem.W PySem.SeqAt

/-! sorted of tuples whose items are ints and texts, as far as they are looked at -/
noncomputable def strOfD : PyData → Option Str
  | .str x => some x
  | _ => none
noncomputable def ltAt (lt : PyData → PyData → Option Bool) (ds : List PyData) (i j : Nat) : Option Bool := (ds[i]?).bind fun a => (ds[j]?).bind fun b => lt a b
noncomputable def permD (ds : List PyData) (p : List Nat) : Option (List PyData) := p.mapM fun i => ds[i]?
noncomputable def sortBy (lt : PyData → PyData → Option Bool) (ds : List PyData) : Option (List PyData) := (kasGo (ltAt lt ds) (kas_sort ds.length)).bind fun p => if p.size = ds.length then permD ds p.toList else none
theorem strOfD_eq {d : PyData} {x : Str} (q : strOfD d = some x) : d = .str x := by
  cases d with
  | str ds => cases q; rfl
  | _ => exact noSome q
section
variable {prog : Program} {w : World} {A : Around} {s : Shared} {U : Addr → Prop} {h : Heap} {E : Value → Shared → Prop}
theorem mapM_get {vs : List Value} : ∀ {p : List Nat} {ds es : List PyData}, RepAll U h vs ds → permD ds p = some es → ∀ (W : Addr → Prop), (∀ a, U a → W a) → RepAll W h (p.map fun i => vs.getD i Value.none) es
  | [], ds, es, _, e, _, _ => by
    unfold permD at e
    simp at e
    subst e
    exact .nil
  | i :: p, ds, es, r, e, W, hW => by
    unfold permD at e
    rw [List.mapM_cons] at e
    obtain ⟨d, hd, e⟩ := Option.bind_eq_some_iff.mp e
    obtain ⟨es', he, e⟩ := Option.bind_eq_some_iff.mp e
    cases e
    obtain ⟨v, hv, rv⟩ := r.get hd
    rw [List.map_cons]
    refine .cons ?_ (mapM_get r he W hW)
    rw [List.getD_eq_getElem?_getD, hv]
    exact rv.mono hW

theorem repAll_ne {b : Addr} {vs : List Value} {ds : List PyData} (r : RepAll U h vs ds) (nb : h.get? b = none) : RepAll (fun c => U c ∧ c ≠ b) h vs ds := by
  obtain ⟨as, q, u⟩ := r
  refine ⟨as, q, fun a m => ⟨u a m, fun e => ?_⟩⟩
  obtain ⟨o, ho⟩ := repAll_new.readsAll_alloc q a m
  rw [e, nb] at ho; cases ho
/-- whatever the keys' kind is -/
theorem sort_ok {lt : PyData → PyData → Option Bool} {ds es : List PyData} {v : Value} (hv : RepR U s.heap v (.list ds)) (h64 : ds.length < 64) (hes : if ds.length < 2 then es = ds else sortBy lt ds = some es)
    (hK : ∀ vs, RepAll U s.heap vs ds → 2 ≤ ds.length → ∃ κ, (∀ h' (Q : SortKind → Shared → Prop), Stays s.heap h' → Q κ { s with heap := h' } → wpAny (model prog w) A.in1.in1 (keyKind' vs.toArray) Q NoE { s with heap := h' }) ∧
      ∀ h' x y a b c (Q : Bool → Shared → Prop), Stays s.heap h' → Rep U s.heap x a → Rep U s.heap y b → lt a b = some c → Q c { s with heap := h' } → wpAny (model prog w) A.in1.in1 (keyLt' κ x y) Q NoE { s with heap := h' }) :
    wpAny (model prog w) A (call (.builtin "sorted") [v]) (EvPostF U s es) NoE s := by
  obtain ⟨l, vs, rfl, hl, rr⟩ := hv
  have hlen := rr.length
  by_cases h2 : ds.length < 2
  · rw [if_pos h2] at hes
    subst hes
    refine sorted_run hl (by omega) (fun _ => rfl) rfl (fun z => by omega) fun h' b n st nb e => ?_
    exact ⟨h', s.toks, b, vs, n, rfl, st, rfl, nb, e, (repAll_ne rr nb).stays st⟩
  · rw [if_neg h2] at hes
    obtain ⟨p, hp, hes⟩ := Option.bind_eq_some_iff.mp hes
    split at hes
    rotate_left
    · cases hes
    rename_i hps
    obtain ⟨κ, kk, kl⟩ := hK vs rr (by omega)
    refine sorted_run (out := p.toList.map fun i => vs.getD i Value.none) hl (by omega) (fun z => by omega) (by rw [List.length_map, Array.length_toList, hps, hlen]) (fun _ h' st => ?_) fun h' b n st nb e => ?_
    · refine kk h' _ st ⟨rfl, ?_⟩
      rw [hlen]
      refine kasGo_wp (fun i j c C q k => ?_) _ p _ hp ⟨rfl, rfl⟩
      obtain ⟨a, ha, q⟩ := Option.bind_eq_some_iff.mp q
      obtain ⟨b, hb, q⟩ := Option.bind_eq_some_iff.mp q
      obtain ⟨x, hx, rx⟩ := rr.get ha
      obtain ⟨y, hy, ry⟩ := rr.get hb
      unfold kas_ask
      rw [List.getD_eq_getElem?_getD, List.getD_eq_getElem?_getD, hx, hy]
      exact kl h' x y a b c C st rx ry q k
    · exact ⟨h', s.toks, b, _, n, rfl, st, rfl, nb, e, (mapM_get (repAll_ne rr nb) hes _ fun _ u => u).stays st⟩

end
end Mine

namespace Mine
open PySem PySem.Calls PySem.Spec PyProof.Rows PySem.W PySem.SeqAt

/-! the tree of questions puts distinct keys in order -/
section
variable {n : Nat} {key : Nat → Nat} {lt : Nat → Nat → Option Bool} {p : Array Nat}
noncomputable def PermN (n : Nat) (p : Array Nat) : Prop := p.Perm (List.toArray (List.range n))
noncomputable def kp (key : Nat → Nat) (p : Array Nat) (i : Nat) : Nat := key (p.getD i 0)
noncomputable def Asc (key : Nat → Nat) (p : Array Nat) (m : Nat) : Prop := ∀ i j, i < j → j < m → kp key p i < kp key p j
noncomputable def Dsc (key : Nat → Nat) (p : Array Nat) (m : Nat) : Prop := ∀ i j, i < j → j < m → kp key p j < kp key p i
structure Ask (n : Nat) (key : Nat → Nat) (lt : Nat → Nat → Option Bool) : Prop where
  ans : ∀ i j, i < n → j < n → i ≠ j → lt i j = some (decide (key i < key j))
  inj : ∀ i j, i < n → j < n → key i = key j → i = j

theorem PermN.size (h : PermN n p) : p.size = n := by have := h.size_eq; simpa using this
theorem PermN.list (h : PermN n p) : p.toList.Perm (List.range n) := Array.perm_iff_toList_perm.mp h
theorem getD_eq {i : Nat} : p.getD i 0 = (p[i]?).getD 0 := by rw [Array.getD_eq_getD_getElem?]
theorem PermN.below (h : PermN n p) {i : Nat} (hi : i < n) : p.getD i 0 < n := by
  have hz : i < p.size := by rw [h.size]; exact hi
  have : p[i] ∈ p.toList := by simp
  have := List.mem_range.mp (h.list.mem_iff.mp this)
  rw [getD_eq, Array.getElem?_eq_getElem hz]
  exact this
theorem PermN.at_inj (h : PermN n p) {i j : Nat} (hi : i < n) (hj : j < n) (e2 : p.getD i 0 = p.getD j 0) : i = j := by
  have nd : p.toList.Nodup := h.list.nodup_iff.mpr List.nodup_range
  have hi' : i < p.toList.length := by rw [Array.length_toList, h.size]; exact hi
  have hj' : j < p.toList.length := by rw [Array.length_toList, h.size]; exact hj
  rw [getD_eq, getD_eq, Array.getElem?_eq_getElem (by simpa using hi'), Array.getElem?_eq_getElem (by simpa using hj')] at e2
  simp only [Option.getD_some] at e2
  exact (List.getElem_inj (h₀ := hi') (h₁ := hj') nd).mp (by simpa using e2)
theorem PermN.ne (h : PermN n p) (W : Ask n key lt) {i j : Nat} (hi : i < n) (hj : j < n) (hij : i ≠ j) : kp key p i ≠ kp key p j := by
  intro e
  exact hij (h.at_inj hi hj (W.inj _ _ (h.below hi) (h.below hj) e))
theorem ask_go {α : Type} (h : PermN n p) (W : Ask n key lt) {i j : Nat} (hi : i < n) (hj : j < n) {k : Bool → KasT α} (hij : i ≠ j := by omega) : kasGo lt (.ask (p.getD i 0) (p.getD j 0) k) = kasGo lt (k (decide (kp key p i < kp key p j))) := by
  show (lt _ _).bind _ = _
  rw [W.ans _ _ (h.below hi) (h.below hj) fun e => hij (h.at_inj hi hj e)]; rfl
theorem go_bind {α β : Type} : ∀ (t : KasT α) (f : α → KasT β), kasGo lt (t.bind f) = (kasGo lt t).bind fun a => kasGo lt (f a)
  | .ret _, _ => rfl
  | .ask i j k, f => by
    show (lt i j).bind (fun b => kasGo lt ((k b).bind f)) = ((lt i j).bind fun b => kasGo lt (k b)).bind _
    rw [Option.bind_assoc]
    congr 1
    funext b
    exact go_bind (k b) f

/-! arithmetic in small -/
theorem pre_lt {m : Nat} (h1 : 1 ≤ m) : m - 1 < m := Nat.sub_lt h1 Nat.one_pos
theorem step_lt {m f n : Nat} (h : m + (f + 1) = n) : m < n := h ▸ Nat.lt_add_of_pos_right (Nat.succ_pos f)
theorem step_eq {m f n : Nat} (h : m + (f + 1) = n) : m + 1 + f = n := by rw [Nat.add_assoc, Nat.add_comm 1 f]; exact h
theorem below {j m : Nat} (hj : j < m + 1) (e : ¬j = m) : j < m := Nat.lt_of_le_of_ne (Nat.le_of_lt_succ hj) e
theorem mid_lo {l r : Nat} (h : ¬l ≥ r) : l ≤ (l + r) / 2 := by omega
theorem mid_hi {l r : Nat} (h : ¬l ≥ r) : (l + r) / 2 < r := by omega
theorem mid_f1 {l r f : Nat} (c : ¬l ≥ r) (h : r - l ≤ f + 1) : (l + r) / 2 - l ≤ f := by omega
theorem mid_f2 {l r f : Nat} (c : ¬l ≥ r) (h : r - l ≤ f + 1) : r - ((l + r) / 2 + 1) ≤ f := by omega
theorem lt_no {a b : Nat} (h : ¬a < b) (ne : a ≠ b) : b < a := Nat.lt_of_le_of_ne (Nat.not_lt.mp h) ne.symm
theorem Asc.succ {m : Nat} (a : Asc key p m) (h1 : 1 ≤ m) (hl : kp key p (m - 1) < kp key p m) : Asc key p (m + 1) := fun i j hij hj => by
  by_cases e : j = m
  · subst e
    by_cases e2 : i = j - 1
    · subst e2; exact hl
    · exact Nat.lt_trans (a i (j - 1) (Nat.lt_of_le_of_ne (Nat.le_sub_one_of_lt hij) e2) (pre_lt h1)) hl
  · exact a i j hij (below hj e)
theorem Dsc.succ {m : Nat} (a : Dsc key p m) (h1 : 1 ≤ m) (hl : kp key p m < kp key p (m - 1)) : Dsc key p (m + 1) := fun i j hij hj => by
  by_cases e : j = m
  · subst e
    by_cases e2 : i = j - 1
    · subst e2; exact hl
    · exact Nat.lt_trans hl (a i (j - 1) (Nat.lt_of_le_of_ne (Nat.le_sub_one_of_lt hij) e2) (pre_lt h1))
  · exact a i j hij (below hj e)

theorem asc_go (h : PermN n p) (W : Ask n key lt) : ∀ (f m : Nat), 1 ≤ m → m + f = n → Asc key p m → ∃ r, kasGo lt (kas_asc p f m) = some r ∧ m ≤ r ∧ r ≤ n ∧ Asc key p r ∧ (r < n → kp key p r < kp key p (r - 1))
  | 0, m, _, hm, a => ⟨m, rfl, Nat.le_refl _, Nat.le_of_eq hm, a, fun z => absurd z (Nat.not_lt.mpr (Nat.le_of_eq (Eq.symm hm)))⟩
  | f + 1, m, h1, hm, a => by
    have hmn := step_lt hm
    have hp := pre_lt h1
    unfold kas_asc
    rw [ask_go h W hmn (Nat.lt_trans hp hmn) (Nat.ne_of_gt hp)]
    by_cases c : kp key p m < kp key p (m - 1)
    · rw [decide_eq_true c]
      exact ⟨m, rfl, Nat.le_refl _, Nat.le_of_lt hmn, a, fun _ => c⟩
    · rw [decide_eq_false c]
      obtain ⟨r, e, h2, h3, h4, h5⟩ := asc_go h W f (m + 1) (Nat.le_succ_of_le h1) (step_eq hm) (a.succ h1 (lt_no c (h.ne W hmn (Nat.lt_trans hp hmn) (Nat.ne_of_gt hp))))
      exact ⟨r, e, Nat.le_of_succ_le h2, h3, h4, h5⟩
theorem desc_go (h : PermN n p) (W : Ask n key lt) : ∀ (f m : Nat), 1 ≤ m → m + f = n → Dsc key p m → ∃ r, kasGo lt (kas_desc f p m 0) = some (p, r, 0) ∧ m ≤ r ∧ r ≤ n ∧ Dsc key p r
  | 0, m, _, hm, a => ⟨m, rfl, Nat.le_refl _, Nat.le_of_eq hm, a⟩
  | f + 1, m, h1, hm, a => by
    have hmn := step_lt hm
    have hp := pre_lt h1
    have hpn := Nat.lt_trans hp hmn
    unfold kas_desc
    rw [ask_go h W hmn hpn (Nat.ne_of_gt hp)]
    by_cases c : kp key p m < kp key p (m - 1)
    · rw [decide_eq_true c, if_pos rfl, if_neg (Nat.lt_irrefl 0)]
      obtain ⟨r, e, h2, h3, h4⟩ := desc_go h W f (m + 1) (Nat.le_succ_of_le h1) (step_eq hm) (a.succ h1 c)
      exact ⟨r, e, Nat.le_of_succ_le h2, h3, h4⟩
    · rw [decide_eq_false c, if_neg (by simp)]
      rw [ask_go h W hpn hmn (Nat.ne_of_lt hp), decide_eq_true (lt_no c (h.ne W hmn hpn (Nat.ne_of_gt hp))), if_pos rfl]
      exact ⟨m, rfl, Nat.le_refl _, Nat.le_of_lt hmn, a⟩
theorem rev_perm (h : PermN n p) (i j : Nat) : PermN n (kas_rev p i j) := (mirror_perm p i j _).trans h
theorem mirror_at {k m : Nat} (hk : k < m) : 0 + m - 1 - k = m - 1 - k := by omega
theorem rev_asc (h : PermN n p) {m : Nat} (hm : m ≤ n) (a : Dsc key p m) : Asc key (kas_rev p 0 m) m := fun i j hij hj => by
  have e : ∀ k, k < m → kp key (kas_rev p 0 m) k = kp key p (m - 1 - k) := fun k hk => by
    unfold kp kas_rev
    rw [getD_eq, getD_eq, getElem?_mirror_all (by rw [h.size]; exact hm), if_pos ⟨Nat.zero_le _, hk⟩]
    congr 3
    exact mirror_at hk
  rw [e i (Nat.lt_trans hij hj), e j hj]
  exact a _ _ (Nat.sub_lt_sub_left (Nat.lt_of_lt_of_le hij (Nat.le_sub_one_of_lt hj)) hij) (Nat.lt_of_le_of_lt (Nat.sub_le _ _) (pre_lt (Nat.lt_of_le_of_lt (Nat.zero_le _) hj)))
theorem tail3_go (h : PermN n p) (W : Ask n key lt) {m : Nat} (h1 : 1 ≤ m) (hm : m ≤ n) (a : Dsc key p m) : ∃ r p', kasGo lt (kas_tail3 m n p) = some (r, p') ∧ 1 ≤ r ∧ r ≤ n ∧ PermN n p' ∧ Asc key p' r := by
  unfold kas_tail3
  obtain ⟨r, e, h2, h3, h4, _⟩ := asc_go (rev_perm h 0 m) W (n - m) m h1 (Nat.add_sub_of_le hm) (rev_asc h hm a)
  rw [go_bind, e]
  exact ⟨r, _, rfl, Nat.le_trans h1 h2, h3, rev_perm h 0 m, h4⟩
theorem count_go (h : PermN n p) (W : Ask n key lt) (h1 : 1 ≤ n) : ∃ r p', kasGo lt (kas_count n p) = some (r, p') ∧ 1 ≤ r ∧ r ≤ n ∧ PermN n p' ∧ Asc key p' r := by
  unfold kas_count
  obtain ⟨r, e, h2, h3, h4, h5⟩ := asc_go h W (n - 1) 1 (Nat.le_refl _) (Nat.add_sub_of_le h1) (fun i j hij hj => absurd (Nat.lt_of_lt_of_le hij (Nat.le_of_lt_succ hj)) (Nat.not_lt_zero i))
  rw [go_bind, e, Option.bind_some]
  by_cases hr : (r == n) = true
  · rw [if_pos hr]
    exact ⟨r, p, rfl, h2, h3, h, h4⟩
  · rw [if_neg hr]
    have hrn : r < n := Nat.lt_of_le_of_ne h3 fun z => hr (beq_iff_eq.mpr z)
    by_cases h6 : r > 1
    · rw [if_pos h6, ask_go h W h1 (Nat.lt_of_le_of_lt (Nat.sub_le r 1) hrn) (Nat.ne_of_lt (Nat.sub_pos_of_lt h6)), decide_eq_true (h4 0 (r - 1) (Nat.sub_pos_of_lt h6) (pre_lt h2)), if_pos rfl]
      exact ⟨r, p, rfl, h2, h3, h, h4⟩
    · rw [if_neg h6]
      have : r = 1 := Nat.le_antisymm (Nat.not_lt.mp h6) h2
      subst this
      have c := h5 hrn
      have d2 : Dsc key p 2 := fun i j hij hj => by
        have hi : i = 0 := Nat.lt_one_iff.mp (Nat.lt_of_lt_of_le hij (Nat.le_of_lt_succ hj))
        have hj : j = 1 := Nat.le_antisymm (Nat.le_of_lt_succ hj) (Nat.lt_of_le_of_lt (Nat.zero_le i) hij)
        subst hi hj
        exact c
      unfold kas_descPart
      obtain ⟨m, e2, h7, h8, h9⟩ := desc_go h W (n - 2) 2 (by decide) (Nat.add_sub_of_le hrn) d2
      rw [go_bind, e2, Option.bind_some]
      dsimp only
      rw [if_neg (by omega)]
      exact tail3_go h W (Nat.le_of_succ_le h7) h8 h9
theorem place_go (h : PermN n p) (W : Ask n key lt) {k : Nat} (hk : k < n) (a : Asc key p k) : ∀ (f l r : Nat), l ≤ r → r ≤ k → r - l ≤ f → (∀ i, i < l → kp key p i < kp key p k) → (∀ i, r ≤ i → i < k → kp key p k < kp key p i) →
    ∃ m, kasGo lt (kas_place p k f l r) = some m ∧ m ≤ k ∧ (∀ i, i < m → kp key p i < kp key p k) ∧ (∀ i, m ≤ i → i < k → kp key p k < kp key p i)
  | 0, l, r, h1, h2, h3, h4, h5 => ⟨l, rfl, Nat.le_trans h1 h2, h4, fun i hi => h5 i (Nat.le_trans (Nat.sub_eq_zero_iff_le.mp (Nat.le_zero.mp h3)) hi)⟩
  | f + 1, l, r, h1, h2, h3, h4, h5 => by
    unfold kas_place
    by_cases c : l ≥ r
    · rw [if_pos c]
      exact ⟨l, rfl, Nat.le_trans h1 h2, h4, fun i hi => h5 i (Nat.le_trans c hi)⟩
    · have m1 := mid_lo c
      have m2 := mid_hi c
      have m3 := mid_f1 c h3
      have m4 := mid_f2 c h3
      rw [if_neg c]
      generalize (l + r) / 2 = m at *
      have hmk : m < k := Nat.lt_of_lt_of_le m2 h2
      have hmn : m < n := Nat.lt_trans hmk hk
      rw [ask_go h W hk hmn (Nat.ne_of_gt hmk)]
      by_cases d : kp key p k < kp key p m
      · rw [decide_eq_true d, if_pos rfl]
        refine place_go h W hk a f l m m1 (Nat.le_of_lt hmk) m3 h4 fun i hi hik => ?_
        by_cases e : i = m
        · subst e; exact d
        · exact Nat.lt_trans d (a _ _ (Nat.lt_of_le_of_ne hi (Ne.symm e)) hik)
      · have d2 := lt_no d (h.ne W hk hmn (Nat.ne_of_gt hmk))
        rw [decide_eq_false d, if_neg (by simp)]
        refine place_go h W hk a f (m + 1) r m2 h2 m4 (fun i hi => ?_) h5
        by_cases e : i = m
        · subst e; exact d2
        · exact Nat.lt_trans (a i m (below hi e) hmk) d2
theorem bin_go (W : Ask n key lt) : ∀ (f k : Nat) (p : Array Nat), PermN n p → k + f = n → Asc key p k → ∃ p', kasGo lt (kas_bin f p k) = some p' ∧ PermN n p' ∧ Asc key p' n
  | 0, k, p, h, hk, a => ⟨p, rfl, h, by rw [← hk]; exact a⟩
  | f + 1, k, p, h, hk, a => by
    have hkn := step_lt hk
    unfold kas_bin
    obtain ⟨l, e, h1, h2, h3⟩ := place_go h W (k := k) hkn a k 0 k (Nat.zero_le k) (Nat.le_refl _) (Nat.sub_le k 0) (fun i hi => absurd hi (Nat.not_lt_zero i)) (fun i hi hik => absurd hik (Nat.not_lt.mpr hi))
    rw [go_bind, e, Option.bind_some]
    refine bin_go W f (k + 1) _ ((bubble_perm p k _).trans h) (step_eq hk) fun i j hij hj => ?_
    have g : ∀ x, x ≤ k → kp key (bubble p k (k - l)) x = if x = l then kp key p k else if l < x then kp key p (x - 1) else kp key p x := fun x hx => by
      unfold kp
      rw [getD_eq, getElem?_bubble (by rw [h.size]; exact hkn) _ (Nat.sub_le k l)]
      have e1 : k - (k - l) = l := Nat.sub_sub_self h1
      rw [e1]
      by_cases c1 : x = l
      · rw [if_pos c1, if_pos c1, getD_eq]
      · rw [if_neg c1, if_neg c1]
        by_cases c2 : l < x
        · rw [if_pos ⟨c2, hx⟩, if_pos c2, getD_eq]
        · rw [if_neg (fun z => c2 z.1), if_neg c2, getD_eq]
    have hjk : j ≤ k := Nat.le_of_lt_succ hj
    have hj1 : j - 1 < k := Nat.lt_of_lt_of_le (Nat.sub_one_lt_of_lt hij) hjk
    rw [g i (Nat.le_of_lt (Nat.lt_of_lt_of_le hij hjk)), g j hjk]
    by_cases c1 : i = l
    · rw [if_pos c1, if_neg (fun z => Nat.ne_of_lt hij (c1.trans z.symm)), if_pos (c1 ▸ hij)]
      exact h3 _ (Nat.le_sub_one_of_lt (c1 ▸ hij)) hj1
    · rw [if_neg c1]
      by_cases c2 : l < i
      · rw [if_pos c2, if_neg (Nat.ne_of_gt (Nat.lt_trans c2 hij)), if_pos (Nat.lt_trans c2 hij)]
        exact a _ _ (Nat.sub_lt_sub_right (Nat.lt_of_le_of_lt (Nat.zero_le l) c2) hij) hj1
      · rw [if_neg c2]
        have hil := Nat.lt_of_le_of_ne (Nat.not_lt.mp c2) c1
        by_cases c3 : j = l
        · rw [if_pos c3]; exact h2 i hil
        · rw [if_neg c3]
          by_cases c4 : l < j
          · rw [if_pos c4]
            exact a _ _ (Nat.lt_of_lt_of_le hil (Nat.le_sub_one_of_lt c4)) hj1
          · rw [if_neg c4]; exact a _ _ hij (Nat.lt_of_lt_of_le (Nat.lt_of_le_of_ne (Nat.not_lt.mp c4) c3) h1)
theorem sort_go (W : Ask n key lt) (h1 : 1 ≤ n) : ∃ p, kasGo lt (kas_sort n) = some p ∧ PermN n p ∧ Asc key p n := by
  unfold kas_sort
  obtain ⟨r, p', e, h2, h3, h4, h5⟩ := count_go (p := List.toArray (List.range n)) (Array.Perm.refl _) W h1
  rw [go_bind, e, Option.bind_some]
  dsimp only
  by_cases c : r < n
  · rw [if_pos c]
    have : max r 1 = r := Nat.max_eq_left h2
    rw [this]
    exact bin_go W _ _ _ h4 (Nat.add_sub_of_le h3) h5
  · rw [if_neg c]
    have : r = n := Nat.le_antisymm h3 (Nat.not_lt.mp c)
    exact ⟨p', rfl, h4, this ▸ h5⟩
end

theorem permD_some {ds : List PyData} : ∀ {l : List Nat}, (∀ i ∈ l, i < ds.length) → permD ds l = some (l.map fun i => ds.getD i .none)
  | [], _ => rfl
  | i :: l, h => by
    unfold permD
    rw [List.mapM_cons, List.getElem?_eq_getElem (h i List.mem_cons_self)]
    have ih : l.mapM (fun i => ds[i]?) = _ := permD_some fun j hj => h j (List.mem_cons_of_mem _ hj)
    rw [ih]
    show some _ = some _
    rw [List.map_cons, List.getD_eq_getElem?_getD, List.getElem?_eq_getElem (h i List.mem_cons_self)]
    rfl
/-- sorted gives the items in the order of their keys -/
theorem sortBy_spec {lt : PyData → PyData → Option Bool} {key : PyData → Nat} {ds : List PyData} (h1 : 1 ≤ ds.length) (hl : ∀ a ∈ ds, ∀ b ∈ ds, key a ≠ key b → lt a b = some (decide (key a < key b))) (nd : (ds.map key).Nodup) :
    ∃ es, sortBy lt ds = some es ∧ es.Perm ds ∧ es.Pairwise fun a b => key a < key b := by
  have W : Ask ds.length (fun i => key (ds.getD i .none)) (ltAt lt ds) := by
    have inj : ∀ i j, i < ds.length → j < ds.length → key (ds.getD i .none) = key (ds.getD j .none) → i = j := fun i j hi hj e => by
      rw [List.getD_eq_getElem?_getD, List.getD_eq_getElem?_getD, List.getElem?_eq_getElem hi, List.getElem?_eq_getElem hj] at e
      have hi' : i < (ds.map key).length := by rw [List.length_map]; exact hi
      have hj' : j < (ds.map key).length := by rw [List.length_map]; exact hj
      exact (List.getElem_inj (h₀ := hi') (h₁ := hj') nd).mp (by simpa using e)
    refine ⟨fun i j hi hj hij => ?_, inj⟩
    have hne : key (ds.getD i .none) ≠ key (ds.getD j .none) := fun e => hij (inj i j hi hj e)
    rw [List.getD_eq_getElem?_getD, List.getD_eq_getElem?_getD, List.getElem?_eq_getElem hi, List.getElem?_eq_getElem hj] at hne
    unfold ltAt
    rw [List.getElem?_eq_getElem hi, List.getElem?_eq_getElem hj]
    show lt _ _ = _
    rw [hl _ (List.getElem_mem hi) _ (List.getElem_mem hj) hne, List.getD_eq_getElem?_getD, List.getD_eq_getElem?_getD, List.getElem?_eq_getElem hi, List.getElem?_eq_getElem hj]
    rfl
  obtain ⟨p, e, hp, ha⟩ := sort_go W h1
  have hlt : ∀ i ∈ p.toList, i < ds.length := fun i hi => List.mem_range.mp (hp.list.mem_iff.mp hi)
  refine ⟨p.toList.map fun i => ds.getD i .none, ?_, ?_, ?_⟩
  · unfold sortBy
    rw [e, Option.bind_some, if_pos hp.size, permD_some hlt]
  · have := hp.list.map fun i => ds.getD i PyData.none
    refine this.trans (List.Perm.of_eq ?_)
    apply List.ext_getElem (by simp)
    intro i h1 h2
    simp [List.getElem?_eq_getElem h2]
  · rw [List.pairwise_iff_getElem]
    intro i j hi hj hij
    have hi' : i < ds.length := by simpa [hp.size] using hi
    have hj' : j < ds.length := by simpa [hp.size] using hj
    have := ha i j hij hj'
    unfold kp at this
    rw [getD_eq, getD_eq, Array.getElem?_eq_getElem (by rw [hp.size]; exact hi'), Array.getElem?_eq_getElem (by rw [hp.size]; exact hj')] at this
    simpa using this
end Mine

namespace Mine
open PySem PySem.Calls PySem.Spec PyProof.Rows PySem.W PySem.SeqAt
open AutoSeq1 (wpAny_loadPart')
open PySem.MeetsSeq3 (plain_eq_loop entry_eq_loop)

/-! one list or tuple below another -/
noncomputable def LtV (A : Around) (s : Shared) (x y : Value) (c : Bool) : Prop := ∀ (prog : Program) (w : World) (E Q : Value → Shared → Prop), Q (.bool c) s → wpAny (model prog w) A (richCompare .Lt x y) Q E s
noncomputable def lexB (e c : Nat → Bool) (fin : Bool) : List Nat → Bool
  | [] => fin
  | i :: r => if e i then lexB e c fin r else c i
theorem lt_loopAt (l b : Addr) (items items2 : Array Value) (n n2 : Nat) (dd dd2 : Option Addr) (sl sl2 : Array (Option Value)) (e c : Nat → Bool) (k : Nat) :
    ∀ i : Nat, min items.size items2.size - i = k → Meets (Builtin.«list.__eq__.loop» ⟨[.ref l, .ref b, rawInt i, rawInt 0], []⟩)
      (fun A R s => s.heap.get? l = some { cls := .type "list", dict := dd, data := .seq items n, slots := sl } ∧ s.heap.get? b = some { cls := .type "list", dict := dd2, data := .seq items2 n2, slots := sl2 } ∧
        (∀ j (h1 : j < items.size) (h2 : j < items2.size), EqAt A.in1 s items[j] items2[j] (e j)) ∧ (∀ j (h1 : j < items.size) (h2 : j < items2.size), e j = false → LtV A.in1 s items[j] items2[j] (c j)) ∧
        R (.ok (.ret (.bool (lexB e c (decide (items.size < items2.size)) ((List.range (min items.size items2.size)).drop i))))) s) := by
  induction k with
  | zero =>
    intro i hk prog w A R s h
    obtain ⟨hp, g, d, tk, os⟩ := s; obtain ⟨hl, hb, he, hc, h⟩ := h
    wp_walk using wpAny_loadPart' hl, wpAny_loadPart' hb
    have hm := Nat.sub_eq_zero_iff_le.mp hk
    have hd : (List.range (min items.size items2.size)).drop i = [] := List.drop_eq_nil_of_le (by rw [List.length_range]; exact hm)
    rw [hd] at h
    have hi : items[((i : Nat) : Int).toNat]? = none ∨ items2[((i : Nat) : Int).toNat]? = none := by
      rw [Int.toNat_natCast]
      rcases Nat.le_total items.size items2.size with z | z
      · rw [Nat.min_eq_left z] at hm
        exact .inl (Array.getElem?_eq_none hm)
      · rw [Nat.min_eq_right z] at hm
        exact .inr (Array.getElem?_eq_none hm)
    rcases hi with hi | hi
    · rw [hi]
      wp_walk using wpAny_loadPart' hl, wpAny_loadPart' hb
      exact h
    · rw [hi]
      cases items[((i : Nat) : Int).toNat]? <;> (wp_walk using wpAny_loadPart' hl, wpAny_loadPart' hb; exact h)
  | succ k ih =>
    intro i hk prog w A R s h
    obtain ⟨hp, g, d, tk, os⟩ := s; obtain ⟨hl, hb, he, hc, h⟩ := h
    wp_walk using wpAny_loadPart' hl, wpAny_loadPart' hb
    have hm : i < min items.size items2.size := Nat.lt_of_sub_eq_succ hk
    have hlt : i < items.size := Nat.lt_of_lt_of_le hm (Nat.min_le_left _ _)
    have hlt2 : i < items2.size := Nat.lt_of_lt_of_le hm (Nat.min_le_right _ _)
    have hi1 : items[((i : Nat) : Int).toNat]? = some items[i] := by simp [hlt]
    have hi2 : items2[((i : Nat) : Int).toNat]? = some items2[i] := by simp [hlt2]
    have hd : (List.range (min items.size items2.size)).drop i = i :: (List.range (min items.size items2.size)).drop (i + 1) := by
      rw [List.drop_eq_getElem_cons (by rw [List.length_range]; exact hm), List.getElem_range]
    have hcast : ((i : Int) + 1) = ((i + 1 : Nat) : Int) := by push_cast; rfl
    rw [hd] at h
    unfold lexB at h
    rw [hi1, hi2]
    refine wpAny_bind (he i hlt hlt2 prog w _ _ ?_)
    cases hb' : e i with
    | true =>
      rw [hb'] at h
      wp_walk
      rw [hcast]
      exact ⟨plainId_quiet plain_eq_loop _, codeAny_builtin entry_eq_loop (by
        rw [Around.under_plainId plain_eq_loop _]
        exact ih (i + 1) (by rw [Nat.sub_succ, hk]; rfl) prog w A R _ ⟨hl, hb, he, hc, by simpa using h⟩)⟩
    | false =>
      rw [hb'] at h
      wp_walk using wpAny_loadPart' hl, wpAny_loadPart' hb
      rw [hi1, hi2]
      refine wpAny_bind (hc i hlt hlt2 hb' prog w _ _ ?_)
      wp_walk
      simpa using h

theorem list_ltAt (l b : Addr) (items items2 : Array Value) (n n2 : Nat) (dd dd2 : Option Addr) (sl sl2 : Array (Option Value)) (e c : Nat → Bool) :
    Meets (Builtin.«list.__lt__» ⟨[.ref l, .ref b], []⟩)
      (fun A R s => s.heap.get? l = some { cls := .type "list", dict := dd, data := .seq items n, slots := sl } ∧ s.heap.get? b = some { cls := .type "list", dict := dd2, data := .seq items2 n2, slots := sl2 } ∧
        (∀ j (h1 : j < items.size) (h2 : j < items2.size), EqAt A.in1 s items[j] items2[j] (e j)) ∧ (∀ j (h1 : j < items.size) (h2 : j < items2.size), e j = false → LtV A.in1 s items[j] items2[j] (c j)) ∧
        R (.ok (.ret (.bool (lexB e c (decide (items.size < items2.size)) (List.range (min items.size items2.size)))))) s) := by
  intro prog w A R s h
  obtain ⟨hp, g, d, tk, os⟩ := s; obtain ⟨hl, hb, he, hc, h⟩ := h
  have f3 := AutoSeq1.sub_list_list
  wp_walk using wpAny_loadPart' hl, wpAny_loadPart' hb
  exact ⟨plainId_quiet plain_eq_loop _, codeAny_builtin entry_eq_loop (by
    rw [Around.under_plainId plain_eq_loop _]
    exact lt_loopAt l b items items2 n n2 dd dd2 sl sl2 e c _ 0 rfl prog w A R _ ⟨hl, hb, he, hc, h⟩)⟩
theorem tuple_ltAt (l b : Addr) (items items2 : Array Value) (n n2 : Nat) (dd dd2 : Option Addr) (sl sl2 : Array (Option Value)) (e c : Nat → Bool) :
    Meets (Builtin.«tuple.__lt__» ⟨[.ref l, .ref b], []⟩)
      (fun A R s => s.heap.get? l = some { cls := .type "tuple", dict := dd, data := .seq items n, slots := sl } ∧ s.heap.get? b = some { cls := .type "tuple", dict := dd2, data := .seq items2 n2, slots := sl2 } ∧
        (∀ j (h1 : j < items.size) (h2 : j < items2.size), EqAt A.in1 s items[j] items2[j] (e j)) ∧ (∀ j (h1 : j < items.size) (h2 : j < items2.size), e j = false → LtV A.in1 s items[j] items2[j] (c j)) ∧
        R (.ok (.ret (.bool (lexB e c (decide (items.size < items2.size)) (List.range (min items.size items2.size)))))) s) :=
  .of_wp fun prog w A R s h => by
    obtain ⟨hp, g, d, tk, os⟩ := s; obtain ⟨hl, hb, he, hc, h⟩ := h
    have f2 := AutoSeq1.sub_tuple_tuple
    have hZ : (items.toList.zip items2.toList).length = min items.size items2.size := by simp
    wp_walk using wpAny_loadPart' hl, wpAny_loadPart' hb, wpAny_forIn_list _ (fun rest b s' => b.1 = none ∧ s' = ⟨hp, g, d, tk, os⟩ ∧ ∃ i, rest = (items.toList.zip items2.toList).drop i ∧
      R (.ok (.ret (.bool (lexB e c (decide (items.size < items2.size)) ((List.range (min items.size items2.size)).drop i))))) ⟨hp, g, d, tk, os⟩) _
    case turn =>
      rintro ⟨y, x⟩ rest b s' ⟨hb', rfl, i, hz, hR⟩
      have hlt : i < (items.toList.zip items2.toList).length := by
        rcases Nat.lt_or_ge i (items.toList.zip items2.toList).length with h' | h'
        · exact h'
        · rw [List.drop_of_length_le h'] at hz; cases hz
      have hm : i < min items.size items2.size := hZ ▸ hlt
      have h1 : i < items.size := Nat.lt_of_lt_of_le hm (Nat.min_le_left _ _)
      have h2 : i < items2.size := Nat.lt_of_lt_of_le hm (Nat.min_le_right _ _)
      rw [List.drop_eq_getElem_cons hlt] at hz
      injection hz with hyx hrest
      have hy : y = items[i] := by have := congrArg Prod.fst hyx; simpa using this
      have hx : x = items2[i] := by have := congrArg Prod.snd hyx; simpa using this
      subst hy hx
      have hd : (List.range (min items.size items2.size)).drop i = i :: (List.range (min items.size items2.size)).drop (i + 1) := by
        rw [List.drop_eq_getElem_cons (by rw [List.length_range]; exact hm), List.getElem_range]
      rw [hd] at hR
      unfold lexB at hR
      refine wpAny_bind (he i h1 h2 prog w _ _ ?_)
      cases hy : e i with
      | true =>
        rw [hy] at hR
        wp_walk
        exact ⟨rfl, rfl, i + 1, hrest, by simpa using hR⟩
      | false =>
        rw [hy] at hR
        have hlt' := hc i h1 h2 hy prog w
        wp_walk using hlt' _ _
        exact ⟨_, rfl, by simpa using hR⟩
    case fin =>
      rintro ⟨b1, b2⟩ s' ⟨hb', rfl, i, hz, hR⟩
      simp only at hb'
      subst hb'
      have hge : min items.size items2.size ≤ i := by
        rcases Nat.lt_or_ge i (items.toList.zip items2.toList).length with h' | h'
        · rw [List.drop_eq_getElem_cons h'] at hz; cases hz
        · exact hZ ▸ h'
      rw [List.drop_of_length_le (by simpa using hge)] at hR
      wp_walk
      exact ⟨_, rfl, by simpa [Builtin.Tuple.tupleCompareSizes, lexB] using hR⟩
    case h =>
      exact ⟨rfl, rfl, 0, rfl, by simpa using h⟩

section
variable {A : Around} {s : Shared}
theorem LtV.lists {l b : Addr} {items items2 : Array Value} {e c : Nat → Bool} (hl : s.heap.IsList l items) (hb : s.heap.IsList b items2) (hu : A.units < cLine)
    (he : ∀ j (h1 : j < items.size) (h2 : j < items2.size), EqAt A.in1 s items[j] items2[j] (e j)) (hc : ∀ j (h1 : j < items.size) (h2 : j < items2.size), e j = false → LtV A.in1 s items[j] items2[j] (c j)) :
    LtV A s (.ref l) (.ref b) (lexB e c (decide (items.size < items2.size)) (List.range (min items.size items2.size))) := fun prog w E Q h => by
  obtain ⟨⟨cls, dd, data, sl⟩, ho, q, n, hd⟩ := id hl
  obtain ⟨⟨cls2, dd2, data2, sl2⟩, ho2, q2, n2, hd2⟩ := id hb
  simp only at q hd q2 hd2
  subst q hd q2 hd2
  exact richCompare_meets_room (op := .Lt) ⟨_, ho, rfl⟩ ⟨_, ho2, rfl⟩ F.slot_list_lt F.entry_list_lt (F.args_list_lt_2 _ _) (list_ltAt l b items items2 n n2 dd dd2 sl sl2 e c) ⟨ho, ho2, he, hc, show _ ∧ _ from ⟨(fun x => nomatch x), h⟩⟩ hu
theorem LtV.tuples {l b : Addr} {items items2 : Array Value} {e c : Nat → Bool} (hl : s.heap.IsTuple l items) (hb : s.heap.IsTuple b items2) (hu : A.units < cLine)
    (he : ∀ j (h1 : j < items.size) (h2 : j < items2.size), EqAt A.in1 s items[j] items2[j] (e j)) (hc : ∀ j (h1 : j < items.size) (h2 : j < items2.size), e j = false → LtV A.in1 s items[j] items2[j] (c j)) :
    LtV A s (.ref l) (.ref b) (lexB e c (decide (items.size < items2.size)) (List.range (min items.size items2.size))) := fun prog w E Q h => by
  obtain ⟨⟨cls, dd, data, sl⟩, ho, q, n, hd⟩ := id hl
  obtain ⟨⟨cls2, dd2, data2, sl2⟩, ho2, q2, n2, hd2⟩ := id hb
  simp only at q hd q2 hd2
  subst q hd q2 hd2
  exact richCompare_meets_room (op := .Lt) ⟨_, ho, rfl⟩ ⟨_, ho2, rfl⟩ F.slot_tuple_lt F.entry_tuple_lt (F.args_tuple_lt_2 _ _) (tuple_ltAt l b items items2 n n2 dd dd2 sl sl2 e c) ⟨ho, ho2, he, hc, show _ ∧ _ from ⟨(fun x => nomatch x), h⟩⟩ hu
theorem LtV.strs {x y : Str} {t u : Tok} : LtV A s (.str x t) (.str y u) (decide (x.cps.toList < y.cps.toList)) := fun prog w E Q h => PyProof.Rows.lt_str h
end
end Mine

namespace Mine
open PySem PySem.Calls PySem.Spec PyProof.Rows PySem.W PySem.SeqAt
open AutoSeq1 (wpAny_loadPart')

/-! sorted of lists of tuples of texts -/
noncomputable def itemsOf : PyData → List PyData
  | .tuple ds => ds
  | .list ds => ds
  | _ => []
noncomputable def sLt (a b : PyData) : Bool := match a with
  | .str x => (match b with
    | .str y => decide (x.cps.toList < y.cps.toList)
    | _ => false)
  | _ => false
noncomputable def lexP (lt : PyData → PyData → Bool) : List PyData → List PyData → Bool
  | [], bs => !bs.isEmpty
  | a :: as, bs => (match bs with
    | [] => false
    | b :: bs => if PyData.eqv a b then lexP lt as bs else lt a b)
noncomputable def tLt (a b : PyData) : Bool := lexP sLt (itemsOf a) (itemsOf b)
noncomputable def lLt (a b : PyData) : Bool := lexP tLt (itemsOf a) (itemsOf b)
noncomputable def isS : PyData → Bool
  | .str _ => true
  | _ => false
noncomputable def isT : PyData → Bool
  | .tuple ds => ds.all isS
  | _ => false
noncomputable def isL : PyData → Bool
  | .list ds => ds.all isT
  | _ => false

theorem lexB_shift {e c : Nat → Bool} {fin : Bool} : ∀ l : List Nat, lexB e c fin (l.map Nat.succ) = lexB (fun j => e (j + 1)) (fun j => c (j + 1)) fin l
  | [] => rfl
  | i :: l => by
    rw [List.map_cons]
    unfold lexB
    rw [lexB_shift l]
theorem lexP_lexB {lt : PyData → PyData → Bool} : ∀ (as bs : List PyData), lexP lt as bs = lexB (fun j => pairEq as bs j) (fun j => lt (as.getD j .none) (bs.getD j .none)) (decide (as.length < bs.length)) (List.range (min as.length bs.length))
  | [], [] => rfl
  | [], b :: bs => by simp [lexP, lexB]
  | a :: as, [] => by simp [lexP, lexB]
  | a :: as, b :: bs => by
    have e : List.range (min (a :: as).length (b :: bs).length) = 0 :: (List.range (min as.length bs.length)).map Nat.succ := by
      rw [List.length_cons, List.length_cons, Nat.add_min_add_right, List.range_succ_eq_map]
    rw [e]
    have l : lexP lt (a :: as) (b :: bs) = if PyData.eqv a b then lexP lt as bs else lt a b := rfl
    conv => rhs; unfold lexB
    rw [lexB_shift, l, lexP_lexB as bs]
    have f : decide ((a :: as).length < (b :: bs).length) = decide (as.length < bs.length) := by simp
    rw [f]
    rfl

section
variable {prog : Program} {w : World} {A : Around} {s : Shared} {U : Addr → Prop}
theorem items_eq {vs ws : List Value} {ds es : List PyData} (r1 : RepAll U s.heap vs ds) (r2 : RepAll U s.heap ws es) (c1 : PyData.canLayAll0 ds = true) (c2 : PyData.canLayAll0 es = true) (hd : PyData.depthAll ds ≤ 50) (hu : A.units + 60 < cLine) :
    ∀ j (h1 : j < vs.toArray.size) (h2 : j < ws.toArray.size), EqAt A s vs.toArray[j] ws.toArray[j] (pairEq ds es j) := fun j h1 h2 => by
  obtain ⟨as, ra, _⟩ := r1
  obtain ⟨bs, rb, _⟩ := r2
  have := eqAt_readsAll ds es A s vs ws as bs ra rb c1 c2 (by have := Nat.min_le_left (PyData.depthAll ds) (PyData.depthAll es); omega) j (by simpa using h1) (by simpa using h2)
  simpa using this
theorem item_at {vs : List Value} {ds : List PyData} (r : RepAll U s.heap vs ds) {j : Nat} (h : j < vs.toArray.size) : Rep U s.heap vs.toArray[j] (ds.getD j .none) ∧ ds.getD j .none ∈ ds := by
  have hl := r.length
  have h' : j < vs.length := by simpa using h
  obtain ⟨d, hd, rv⟩ := r.get' (i := j) (v := vs[j]) (List.getElem?_eq_getElem h')
  have e : ds.getD j .none = d := by rw [List.getD_eq_getElem?_getD, hd]; rfl
  rw [e]
  exact ⟨by simpa using rv, List.mem_of_getElem? hd⟩
theorem sLt_ok {x y : Value} {a b : PyData} (rx : Rep U s.heap x a) (ry : Rep U s.heap y b) (ha : isS a = true) (hb : isS b = true) : LtV A s x y (sLt a b) := by
  cases a with
  | str p =>
    cases b with
    | str q =>
      obtain ⟨t, rfl⟩ := rx.strInv
      obtain ⟨u, rfl⟩ := ry.strInv
      exact LtV.strs
    | _ => cases hb
  | _ => cases ha
theorem tLt_ok {x y : Value} {a b : PyData} (rx : Rep U s.heap x a) (ry : Rep U s.heap y b) (ha : isT a = true) (hb : isT b = true) (ca : a.canLay0 = true) (cb : b.canLay0 = true) (hd : a.depth ≤ 20) (hu : A.units + 70 < cLine) : LtV A s x y (tLt a b) := by
  cases a with
  | tuple ds =>
    cases b with
    | tuple es =>
      obtain ⟨l, vs, rfl, hl, r1⟩ := rx.tupleInv
      obtain ⟨m, ws, rfl, hm, r2⟩ := ry.tupleInv
      have e : tLt (.tuple ds) (.tuple es) = lexP sLt ds es := rfl
      have n1 : vs.toArray.size = ds.length := by rw [List.size_toArray, r1.length]
      have n2 : ws.toArray.size = es.length := by rw [List.size_toArray, r2.length]
      rw [e, lexP_lexB, ← n1, ← n2]
      refine LtV.tuples hl hm (by omega) (items_eq (A := A.in1) r1 r2 (by unfold PyData.canLay0 at ca; exact ca) (by unfold PyData.canLay0 at cb; exact cb) (by unfold PyData.depth at hd; omega) (show A.units + 1 + 60 < cLine by omega)) fun j h1 h2 _ => ?_
      obtain ⟨q1, m1⟩ := item_at r1 h1
      obtain ⟨q2, m2⟩ := item_at r2 h2
      exact sLt_ok q1 q2 (List.all_eq_true.mp ha _ m1) (List.all_eq_true.mp hb _ m2)
    | _ => cases hb
  | _ => cases ha
theorem lay_mem : ∀ {ds : List PyData}, PyData.canLayAll0 ds = true → ∀ d ∈ ds, d.canLay0 = true
  | [], _, _, m => nomatch m
  | d :: ds, h, x, m => by
    unfold PyData.canLayAll0 at h
    rw [Bool.and_eq_true] at h
    rcases List.mem_cons.mp m with rfl | m
    · exact h.1
    · exact lay_mem h.2 x m
theorem depth_mem : ∀ {ds : List PyData} {n : Nat}, PyData.depthAll ds ≤ n → ∀ d ∈ ds, d.depth ≤ n
  | [], _, _, _, m => nomatch m
  | d :: ds, n, h, x, m => by
    unfold PyData.depthAll at h
    rcases List.mem_cons.mp m with rfl | m
    · exact Nat.le_trans (Nat.le_max_left _ _) h
    · exact depth_mem (Nat.le_trans (Nat.le_max_right _ _) h) x m
/-- what is sorted: lists of tuples of texts, not too deep -/
noncomputable def okL (d : PyData) : Bool := isL d && d.canLay0 && decide (d.depth ≤ 10)
theorem oneLt_list {x y : Value} {a b : PyData} {Q : Bool → Shared → Prop} (rx : Rep U s.heap x a) (ry : Rep U s.heap y b) (ha : okL a = true) (hb : okL b = true) (hu : A.units + 90 < cLine) (q : Q (lLt a b) s) : wpAny (model prog w) A (oneLt' true x y) Q NoE s := by
  unfold okL at ha hb
  simp only [Bool.and_eq_true, decide_eq_true_eq] at ha hb
  cases a with
  | list ds =>
    cases b with
    | list es =>
      obtain ⟨l, vs, rfl, hl, r1, _⟩ := rx.listInv
      obtain ⟨m, ws, rfl, hm, r2, _⟩ := ry.listInv
      obtain ⟨⟨h1, c1⟩, d1⟩ := ha
      obtain ⟨⟨h2, c2⟩, d2⟩ := hb
      unfold PyData.canLay0 at c1 c2
      unfold PyData.depth at d1
      have e : lLt (.list ds) (.list es) = lexP tLt ds es := rfl
      have n1 : vs.toArray.size = ds.length := by rw [List.size_toArray, r1.length]
      have n2 : ws.toArray.size = es.length := by rw [List.size_toArray, r2.length]
      rw [e, lexP_lexB, ← n1, ← n2] at q
      obtain ⟨⟨cls, dd, data, sl⟩, ho, q1, n, hd⟩ := id hl
      obtain ⟨⟨cls2, dd2, data2, sl2⟩, ho2, q2, nn, hd2⟩ := id hm
      simp only at q1 hd q2 hd2
      subst q1 hd q2 hd2
      rw [oneLt'_eq]
      simp only [if_true]
      refine wpAny_bind (wpAny_cRoomFor (by omega) ?_)
      refine wpAny_bind (wpAny_callSpecialIfBound?_slot ⟨_, ho, rfl⟩ F.slot_list_lt (call_meets F.slot_list_lt ⟨_, ho, rfl⟩ F.entry_list_lt (F.args_list_lt_2 _ _)
        (list_ltAt l m _ _ n nn dd dd2 sl sl2 (fun j => pairEq ds es j) (fun j => tLt (ds.getD j .none) (es.getD j .none))) ⟨ho, ho2, items_eq (A := A.in1) r1 r2 c1 c2 (by omega) (show A.units + 1 + 60 < cLine by omega), fun j j1 j2 _ => ?_, ?_⟩))
      · obtain ⟨q1, m1⟩ := item_at r1 j1
        obtain ⟨q2, m2⟩ := item_at r2 j2
        exact tLt_ok q1 q2 (List.all_eq_true.mp h1 _ m1) (List.all_eq_true.mp h2 _ m2) (lay_mem c1 _ m1) (lay_mem c2 _ m2) (depth_mem (n := 20) (by omega) _ m1) (show A.units + 1 + 70 < cLine by omega)
      · exact wpAny_truthy_bool q
    | _ => cases hb.1.1
  | _ => cases ha.1.1
noncomputable def ltL (a b : PyData) : Option Bool := if okL a && okL b then some (lLt a b) else none
noncomputable def srtL (d : PyData) : Option PyData := (listD d).bind fun ds => if ds.length < 2 then some (.list ds) else if ds.length < 64 then (if ds.all okL then (sortBy ltL ds).map .list else none) else none
theorem list_looks {M : Model} {h : Heap} {v : Value} {d : PyData} (r : Rep U h v d) (e : okL d = true) : Looks M h (typeOf v) (Value.type "list") := by
  cases d with
  | list ds =>
    obtain ⟨l, vs, rfl, ⟨o, ho, hc, _⟩, _⟩ := r.listInv
    exact fun A Q E s k q => wpAny_typeOf_ref (k _ _ ho) (hc ▸ q)
  | _ => cases (Bool.and_eq_true_iff.mp (Bool.and_eq_true_iff.mp e).1).1
theorem srtL_ok : SortOk prog w srtL := by
  intro d e q
  obtain ⟨ds, hd, q'⟩ := Option.bind_eq_some_iff.mp q
  clear q
  have := listD_eq hd
  subst this
  have q := q'
  clear q'
  have main : ∀ es, (if ds.length < 2 then es = ds else sortBy ltL ds = some es) → ds.length < 64 → (2 ≤ ds.length → ds.all okL = true) → ∀ (A : Around) (s : Shared) (U : Addr → Prop) (v : Value), Room A 0 → RepR U s.heap v (.list ds) →
      wpAny (model prog w) A (call (.builtin "sorted") [v]) (EvPostF U s es) NoE s := fun es hes h64 ht A s U v rm hv => by
    refine sort_ok hv h64 hes fun vs rr h2 => ?_
    have ok := ht h2
    have hl := rr.length
    refine ⟨oneType', fun h' Q st k => ?_, fun h' x y a b c Q st rx ry e k => ?_⟩
    · refine kas_kind (s := { s with heap := h' }) (T := Value.type "list") (by omega) (fun v hv => ?_) rfl rfl k
      obtain ⟨i, hi, rfl⟩ := List.mem_iff_getElem.mp hv
      obtain ⟨d, hd, rv⟩ := (rr.stays st).get' (List.getElem?_eq_getElem hi)
      exact list_looks rv (List.all_eq_true.mp ok _ (List.mem_of_getElem? hd))
    · replace e := iteS e
      rw [Bool.and_eq_true] at e
      cases e.2
      exact oneLt_list (s := { s with heap := h' }) (rx.stays st) (ry.stays st) e.1.1 e.1.2 (by have := rm.cl 100 (by omega); show A.units + 1 + 1 + 90 < cLine; omega) k
  by_cases h2 : ds.length < 2
  · rw [if_pos h2] at q
    cases q
    exact ⟨ds, rfl, fun A s U v rm hv _ => main ds (by rw [if_pos h2]) (by omega) (fun z => by omega) A s U v rm hv⟩
  · rw [if_neg h2] at q
    replace q := iteS q
    have q2 := iteS q.2
    obtain ⟨es, he, rfl⟩ := Option.map_eq_some_iff.mp q2.2
    exact ⟨es, rfl, fun A s U v rm hv _ => main es (by rw [if_neg h2]; exact he) q.1 (fun _ => q2.1) A s U v rm hv⟩
end
end Mine

namespace Mine
open PySem PySem.Calls PySem.Spec PyProof.Rows PySem.W PySem.SeqAt

/-! texts: join, %, str() of an object -/
noncomputable def strsD : List PyData → Option (List Str)
  | [] => some []
  | .str x :: r => (strsD r).map (x :: ·)
  | _ :: _ => none
noncomputable def sumLen (ys : List Str) : Nat := (ys.map (·.length)).sum + ys.length
noncomputable def joinD (sep : Str) : PyData → Option PyData
  | .list ds => (strsD ds).bind fun ys => if decide (sep.length ≤ 16) && decide (sumLen ys ≤ 1048576) then some (.str (Txt.join sep ys)) else none
  | _ => none
noncomputable def strOfE : Expr → Option Str
  | .Constant c _ _ => (match c with
    | .str x => some x
    | _ => none)
  | _ => none
theorem strOfE_eq {e : Expr} {x : Str} (q : strOfE e = some x) : ∃ k p, e = .Constant (.str x) k p := by
  cases e with
  | Constant c k p =>
    cases c with
    | str y => cases q; exact ⟨_, _, rfl⟩
    | _ => exact noSome q
  | _ => exact noSome q
section
variable {prog : Program} {w : World} {A : Around} {s : Shared} {env : Env} {C : Cls} {H0 : Heap} {U : Addr → Prop} {ρ : Rho} {h h' : Heap} {k : Nat} {mg mb : Str → Option Value} {K : Frag} {E : Value → Shared → Prop}

theorem strsD_are {h : Heap} : ∀ {vs : List Value} {ds : List PyData} {ys : List Str}, RepAll U h vs ds → strsD ds = some ys → StrsAre vs ys
  | [], [], _, _, e => by cases e; exact .nil
  | [], _ :: _, _, r, _ => by have := r.length; simp at this
  | _ :: _, [], _, r, _ => by have := r.length; simp at this
  | v :: vs, d :: ds, ys, r, e => by
    cases d <;> simp only [strsD, reduceCtorEq] at e
    obtain ⟨zs, hz, rfl⟩ := Option.map_eq_some_iff.mp e
    obtain ⟨t, rfl⟩ := r.head.strInv
    exact .cons _ _ (strsD_are r.tail hz)

theorem evConst {c : Const} {kk : Nat} {pos : Pos} {d : PyData} {Q : Value → Shared → Prop} (e : constD c = some d) (q : ∀ v h' tk, Stays s.heap h' → Rep U h' v d → Q v { s with heap := h', toks := tk }) : wpAny (model prog w) A (eval (.Constant c kk pos) env) Q NoE s :=
  thenV (const_ok (U := U) e) q

end
end Mine

namespace Mine
open PySem PySem.Calls PySem.Spec PyProof.Rows PySem.W PySem.SeqAt

theorem len2 {l : List Value} (h : l.length = 2) : ∃ a b, l = [a, b] := by
  rcases l with _ | ⟨a, l⟩
  · cases h
  · obtain ⟨b, rfl⟩ := List.length_eq_one_iff.mp (Nat.succ.inj h)
    exact ⟨a, b, rfl⟩
theorem len3 {l : List Value} (h : l.length = 3) : ∃ a b c, l = [a, b, c] := by
  rcases l with _ | ⟨a, l⟩
  · cases h
  · obtain ⟨b, c, rfl⟩ := len2 (Nat.succ.inj h)
    exact ⟨a, b, c, rfl⟩
/-! what the written heap says of functions, methods, names -/
section
variable {K : Frag} {H0 : Heap} {mg mb : Str → Option Value} {Ca : Addr}
theorem fdOf_at (X : K.In H0) {f : Addr} (e : (fdIn K f).isSome = true) : ∃ o, H0.get? f = some o ∧ o.data = .func (fdOf K f) := by
  obtain ⟨fd, h⟩ := Option.isSome_iff_exists.mp e
  have hf : fdOf K f = fd := by unfold fdOf; rw [h]; rfl
  unfold fdIn at h
  obtain ⟨o, ho, hd⟩ := Option.bind_eq_some_iff.mp h
  rw [hf]
  refine ⟨o, X _ _ ho, ?_⟩
  split at hd
  · rename_i fd' q; cases hd; exact q
  · cases hd
theorem defAt_K (X : K.In H0) (gns : H0.Ns mainGlobals mg) {f : Str} {a : Addr} {F : Fn} (e1 : nsIn K mainGlobals f = some (some (.ref a))) (e2 : (fdIn K a).isSome = true)
    (e3 : fdOf K a = docDef f F.params F.body F.scope (fdOf K a).pyModule (fdOf K a).code (fdOf K a).doc) (e4 : codeIn K (fdOf K a).code f = true) : DefAt mg H0 f F.params F.body F.scope := by
  obtain ⟨o, ho, hd⟩ := fdOf_at X e2
  exact ⟨a, o, _, _, _, mg_of X gns e1, ho, by rw [hd]; exact congrArg Data.func e3, codeRec_of X e4⟩
theorem methAt_K (X : K.In H0) {m : Str} {f : Addr} (e1 : findIn K (.ref Ca) m = some (some (.ref f))) (e2 : typeIn K (.ref f) = some (.type "function")) (e3 : (m == ("_headers" : Str)) = false)
    (e4 : (fdIn K f).isSome = true) (e5 : codeIn K (fdOf K f).code (fdOf K f).qualname = true) : MethAt K H0 Ca m f := ⟨e1, e2, e3, ⟨_, funAt_K X e4 e5⟩⟩
structure PlainIn (K : Frag) (f : Addr) (F : Fn) : Prop where
  isf : (fdIn K f).isSome = true
  code : codeIn K (fdOf K f).code (fdOf K f).qualname = true
  gl : (fdOf K f).globals = mainGlobals
  bl : (fdOf K f).builtins = builtinsNs
  cl : (fdOf K f).closure = []
  sc : (fdOf K f).scope = F.scope
  body : (fdOf K f).body = .stmts F.body
  plain : plainSc F.scope = true
theorem PlainIn.fd (x : PlainIn K f F) : plainFd (fdOf K f) := ⟨x.gl, x.bl, x.cl, by rw [x.sc]; exact x.plain⟩
theorem methFn0 (X : K.In H0) {f : Addr} {F : Fn} (p : PlainIn K f F) (hb : ∀ v, bindArgs (fdOf K f) ⟨[v], []⟩ = pure [(("self" : Str), v)]) (h1 : distinct [("self" : Str)] = true) (h2 : [("self" : Str)].all (own1 F.scope) = true) (h3 : isVar (F.scope.names.lookup ("self" : Str)) = true) : MethFn H0 f [] [] F.body F.scope :=
  ⟨⟨_, funAt_K X p.isf p.code, p.fd, p.sc, p.body, fun s _ self vals h => by
    have : vals = [] := List.eq_nil_of_length_eq_zero h
    subst this
    exact BindsTo.of_eq (hb self)⟩, h1, h2, h3⟩
theorem methFn1 (X : K.In H0) {f : Addr} {F : Fn} {a : Str} (p : PlainIn K f F) (hb : ∀ v u, bindArgs (fdOf K f) ⟨[v, u], []⟩ = pure [(("self" : Str), v), (a, u)]) (h1 : distinct [("self" : Str), a] = true) (h2 : [("self" : Str), a].all (own1 F.scope) = true) (h3 : isVar (F.scope.names.lookup ("self" : Str)) = true) : MethFn H0 f [a] [] F.body F.scope :=
  ⟨⟨_, funAt_K X p.isf p.code, p.fd, p.sc, p.body, fun s _ self vals h => by
    obtain ⟨u, rfl⟩ := List.length_eq_one_iff.mp h
    exact BindsTo.of_eq (hb self u)⟩, h1, h2, h3⟩
theorem methFn2 (X : K.In H0) {f : Addr} {F : Fn} {a b : Str} (p : PlainIn K f F) (hb : ∀ v u t, bindArgs (fdOf K f) ⟨[v, u, t], []⟩ = pure [(("self" : Str), v), (a, u), (b, t)]) (h1 : distinct [("self" : Str), a, b] = true) (h2 : [("self" : Str), a, b].all (own1 F.scope) = true) (h3 : isVar (F.scope.names.lookup ("self" : Str)) = true) : MethFn H0 f [a, b] [] F.body F.scope :=
  ⟨⟨_, funAt_K X p.isf p.code, p.fd, p.sc, p.body, fun s _ self vals h => by
    obtain ⟨u, t, rfl⟩ := len2 h
    exact BindsTo.of_eq (hb self u t)⟩, h1, h2, h3⟩
noncomputable def seqIn (K : Frag) (a : Addr) : Option (Array Nat) := (K.lookup a).bind fun (oc : Obj) => match oc.data with
  | .seq cs _ => some ((cs.map Builtin.Re.reRawOf).map (·.toNat))
  | _ => none
noncomputable def isZ : Option Value → Bool
  | some (.int i t) => i == 0 && t == 0
  | _ => false
theorem isZ_eq {o : Option Value} (h : isZ o = true) : o = some (.int 0 0) := by
  cases o with
  | none => exact Bool.noConfusion h
  | some v =>
    cases v with
    | int i t =>
      replace h : (i == 0 && t == 0) = true := h
      rw [Bool.and_eq_true, beq_iff_eq, beq_iff_eq] at h
      rw [h.1, h.2]
    | _ => exact Bool.noConfusion h
noncomputable def refOf : Option Value → Option Addr
  | some (.ref a) => some a
  | _ => none
theorem refOf_eq {o : Option Value} {a : Addr} (h : refOf o = some a) : o = some (.ref a) := by
  cases o with
  | none => exact noSome h
  | some v =>
    cases v with
    | ref b => cases h; rfl
    | _ => exact noSome h
noncomputable def isTy (n : String) : Value → Bool
  | .type m => m == n
  | _ => false
theorem isTy_eq {n : String} {v : Value} (h : isTy n v = true) : v = .type n := by
  cases v with
  | type m => rw [beq_iff_eq.mp (show (m == n) = true from h)]
  | _ => exact Bool.noConfusion h
noncomputable def fldsOf : Data → Option (Array Value)
  | .fields fs => some fs
  | _ => none
theorem fldsOf_eq {d : Data} {fs : Array Value} (h : fldsOf d = some fs) : d = .fields fs := by
  cases d with
  | fields gs => cases h; rfl
  | _ => exact noSome h
noncomputable def patIn (K : Frag) (p : Addr) : Option (Array Nat) := (K.lookup p).bind fun (o : Obj) => (fldsOf o.data).bind fun fs => if isTy "re.Pattern" o.cls && o.dict.isNone && isZ fs[2]? && isZ fs[6]? then (refOf fs[5]?).bind (seqIn K) else none
theorem patAt_K (X : K.In H0) {p : Addr} {code : Array Nat} (e : patIn K p = some code) : PatAt H0 p code := by
  obtain ⟨⟨cls, dict, data, sl⟩, ho, e1⟩ := Option.bind_eq_some_iff.mp e
  obtain ⟨fs, hf, e2⟩ := Option.bind_eq_some_iff.mp e1
  obtain ⟨hl, e3⟩ := iteS e2
  obtain ⟨ct, h5, e4⟩ := Option.bind_eq_some_iff.mp e3
  simp only [Bool.and_eq_true, Option.isNone_iff_eq_none] at hl
  obtain ⟨⟨⟨h1, h2⟩, h3⟩, h4⟩ := hl
  have k1 : cls = .type "re.Pattern" := isTy_eq h1
  have k2 : dict = none := h2
  have k3 : data = .fields fs := fldsOf_eq hf
  subst k1 k2 k3
  obtain ⟨oc, hoc, e5⟩ := Option.bind_eq_some_iff.mp e4
  obtain ⟨c1, d1, da1, s1⟩ := oc
  cases da1 with
  | seq cs n =>
    cases e5
    exact ⟨_, fs, ct, _, cs, n, X _ _ ho, rfl, rfl, rfl, isZ_eq h3, refOf_eq h5, isZ_eq h4, X _ _ hoc, rfl, rfl⟩
  | _ => exact noSome e5
end
end Mine

namespace Mine
open PySem PySem.Calls PySem.Spec PyProof.Rows PySem.W PySem.SeqAt

/-! a function whose first parameter is a table object; further parameters may be filled by defaults or by ** -/
structure ObjFn (H0 : Heap) (f : Addr) (me : Str) (xs : List Str) (ekd : List PyData) (kw : List Str) (body : List Stmt) (sc : Scope) : Prop where
  has : ∃ fd, FunAt H0 f fd ∧ plainFd fd ∧ fd.scope = sc ∧ fd.body = .stmts body ∧
    ∀ s0 : Shared, Stays H0 s0.heap → ∀ self vals, vals.length + ekd.length = xs.length → ∃ h1 kvs kds, Stays s0.heap h1 ∧ RepAll (fun b => s0.heap.get? b = none) h1 kvs ekd ∧ kds.length = kw.length ∧ (∀ v ∈ kds, ∃ d, v = .ref d ∧ s0.heap.get? d = none ∧ h1.get? d = some kwObj ∧ d ≠ sysModules) ∧
      BindsIn s0 { s0 with heap := h1 } fd ⟨self :: vals, []⟩ ((me, self) :: (xs.zip (vals ++ kvs) ++ kw.zip kds))
  dist : distinct (me :: (xs ++ kw)) = true
  own : (me :: (xs ++ kw)).all (own1 sc) = true
noncomputable def outO (me : Str) (sc : Scope) : Option (Fl × Rho) → Option (PyData × Option (List PyData))
  | some (.ret d, ρ') => some (d, hdrL (look sc ρ' me))
  | some (.next, ρ') => some (.none, hdrL (look sc ρ' me))
  | _ => none
noncomputable def objRho (me : Str) (xs : List Str) (ps args ekd : List PyData) (kw : List Str) : Rho := (me, .hdr ps) :: (rho0 xs (args ++ ekd) ++ kw.map fun x => (x, .kwd))
noncomputable def runO (F : Rho → Option (Fl × Rho)) (me : Str) (xs : List Str) (sc : Scope) (ps args ekd : List PyData) (kw : List Str) : Option (PyData × Option (List PyData)) :=
  if args.length + ekd.length = xs.length then outO me sc (F (objRho me xs ps args ekd kw)) else none
theorem hdrL_eq {o : Option Ent} {ps : List PyData} (q : hdrL o = some ps) : o = some (.hdr ps) := by
  cases o with
  | none => exact noSome q
  | some e =>
    cases e with
    | hdr p => cases q; rfl
    | _ => exact noSome q
section
variable {prog : Program} {w : World} {A : Around} {s : Shared} {env : Env} {C : Cls} {H0 : Heap} {k : Nat} {mg mb : Str → Option Value} {K : Frag} {Ca : Addr}
theorem kw_at {x : Str} {ent : Ent} : ∀ {kw : List Str} {kds : List Value}, kds.length = kw.length → (kw.map fun y => (y, Ent.kwd)).lookup x = some ent → ∃ v, (x, v) ∈ kw.zip kds ∧ ent = .kwd
  | [], _, _, e => by cases e
  | y :: kw, [], h, _ => by cases h
  | y :: kw, v :: kds, h, e => by
    rw [List.map_cons, List.lookup_cons] at e
    cases hx : x == y with
    | true =>
      rw [hx] at e
      cases e
      rw [beq_iff_eq.mp hx]
      exact ⟨v, List.mem_cons_self, rfl⟩
    | false =>
      rw [hx] at e
      obtain ⟨u, hu, q⟩ := kw_at (Nat.succ.inj h) e
      exact ⟨u, List.mem_cons_of_mem _ hu, q⟩
theorem obj_wr (G : Ground0 mg mb H0) {f : Addr} {me : Str} {xs : List Str} {ekd : List PyData} {kw : List Str} {body : List Stmt} {sc : Scope} (MF : ObjFn H0 f me xs ekd kw body sc) {F : Rho → Option (Fl × Rho)}
    (hB : ∀ (ok : Addr → Addr → Prop) (A : Around) (P : Addr → Prop) (env : Env), env.scope = sc → Room A k → BlockOk prog w A ⟨Ca, ok⟩ H0 P env (own1 env.scope) body F)
    {ps ps' args : List PyData} {d : PyData} (q : runO F me xs sc ps args ekd kw = some (d, some ps'))
    {A : Around} {s : Shared} {P : Addr → Prop} {y a : Addr} {vs vargs : List Value} {n0 : Nat} (rm : Room A (k + 1)) (hst : Stays H0 s.heap) (Hy : HdrAt Ca s.heap y a) (ha0 : H0.get? a = none) (ha : s.heap.get? a = some (lst vs n0))
    (rr : RepAll P s.heap vs ps) (hP : ¬ P a) (fr : ∀ b, s.heap.get? b = none → P b) (ra : RepAll P s.heap vargs args) :
    wpAny (model prog w) A (call (.ref f) (.ref y :: vargs)) (WrPost P s a ps' d) NoE s := by
  obtain ⟨fd, FA, hfd, rfl, hbody, hbind⟩ := MF.has
  unfold runO at q
  replace q := iteS q
  obtain ⟨hlen, q⟩ := q
  have hvl : vargs.length + ekd.length = xs.length := by rw [ra.length]; exact hlen
  obtain ⟨h1, kvs, kds, st1, rk, hkl, hkd, hbind⟩ := hbind s hst (.ref y) vargs hvl
  obtain ⟨dx, hs, tk, hy1, hy2⟩ := Hy
  have hya : y ≠ a := fun z => by rw [z, ha] at hy1; cases hy1
  have hda : dx ≠ a := fun z => by rw [z, ha] at hy2; exact absurd (show Value.type "list" = Value.type "dict" from congrArg Obj.cls (Option.some.inj hy2)) (by decide)
  have ra1 : RepAll P h1 (vargs ++ kvs) (args ++ ekd) := (ra.stays st1).append (rk.mono fun b u => fr b u)
  have hl2 : (vargs ++ kvs).length = xs.length := by rw [List.length_append, rk.length]; exact hvl
  have names : ((me, Value.ref y) :: (xs.zip (vargs ++ kvs) ++ kw.zip kds)).map (·.1) = me :: (xs ++ kw) := by rw [List.map_cons, List.map_append, List.map_fst_zip (Nat.le_of_eq hl2.symm), List.map_fst_zip (Nat.le_of_eq hkl.symm)]
  refine wpAny_call (entry_stG (s0 := s) (s := { s with heap := h1 }) (C := ⟨Ca, fun y' a' => y' = y ∧ a' = a⟩) (B0 := fun b => if b = a then none else h1.get? b) (P := fun b => P b ∨ b = a) (X0 := [(me, a)]) (ρ0 := objRho me xs ps args ekd kw) FA hst st1 hbody hfd (by have := rm.depth; omega) G.nolimit
    hbind (by rw [names]; exact MF.dist) (by have := MF.own; rw [← names, List.all_map] at this; exact this) ?_ ?_ (fun b e => .inl (fr b (none_of_stays st1 e))) ?_ ?_ ?_ ?_ ?_)
  · intro b o e
    have : b ≠ a := fun z => by rw [z, ha0] at e; cases e
    rw [if_neg this]; exact st1 b o (hst b o e)
  · intro b o e
    exact (iteN e).2
  · intro p hp
    rcases List.mem_singleton.mp hp with rfl
    exact ⟨if_pos rfl, .inr rfl, vs, n0, st1 _ _ ha⟩
  · intro p hp q hq _
    rcases List.mem_singleton.mp hp with rfl
    rcases List.mem_singleton.mp hq with rfl
    rfl
  · intro p hp q hq _
    rcases List.mem_singleton.mp hp with rfl
    rcases List.mem_singleton.mp hq with rfl
    rfl
  · intro x ent e
    have up : ∀ b, P b → (P b ∨ b = a) ∧ ∀ p ∈ [(me, a)], p.2 ≠ b := fun b hb => ⟨.inl hb, fun p hp => by
      rcases List.mem_singleton.mp hp with rfl
      intro z
      have z' : a = b := z
      exact hP (z'.symm ▸ hb)⟩
    unfold objRho at e
    rw [List.lookup_cons] at e
    cases hx : x == me with
    | true =>
      rw [hx] at e
      cases e
      rw [beq_iff_eq.mp hx]
      exact ⟨.ref y, List.mem_cons_self, y, dx, hs, tk, a, vs, n0, ⟨rfl, rfl, rfl⟩, (by (try dsimp only); rw [if_neg hya]; exact st1 _ _ hy1), (by (try dsimp only); rw [if_neg hda]; exact st1 _ _ hy2), List.mem_singleton.mpr rfl, st1 _ _ ha, (rr.stays st1).mono up⟩
    | false =>
      rw [hx] at e
      rcases lookup_append' e with e | ⟨_, e⟩
      · obtain ⟨v, d', rfl, r1, r2⟩ := lookup_rho0 ra1 e
        exact ⟨v, List.mem_cons_of_mem _ (List.mem_append_left _ r2), r1.mono up⟩
      · obtain ⟨v, hv, rfl⟩ := kw_at hkl e
        obtain ⟨dk, rfl, hn, hk, hs9⟩ := hkd v (List.of_mem_zip hv).2
        exact ⟨.ref dk, List.mem_cons_of_mem _ (List.mem_append_right _ hv), dk, rfl, (by
          show (if dk = a then none else h1.get? dk) = _
          rw [if_neg (fun z => by rw [z, ha] at hn; cases hn)]; exact hk), hs9⟩
  · intro env h2 tk1 henv t st2 _
    have hS : env.scope = fd.scope := by rw [henv]; rfl
    have rm' : Room (A.deeper env) k := ⟨rm.handled, by have := rm.depth; show A.depth + 1 + k < _; omega, by have := rm.units; show A.units + 3 + 200 + 10 * k < _; omega⟩
    cases hx : F (objRho me xs ps args ekd kw) with
    | none => rw [hx] at q; cases q
    | some z =>
      obtain ⟨fl, ρ'⟩ := z
      rw [hx] at q
      have main := hB _ (A.deeper env) _ env hS rm' (objRho me xs ps args ekd kw) fl ρ' (fun b => if b = a then none else h1.get? b) [(me, a)] { s with heap := h2, toks := tk1 } hx t
      refine wpAny_mono main (fun g s' zP => ?_) fun _ _ z => z.elim
      obtain ⟨B2, X2, h3, tk2, e2, sub, t2, hfl⟩ := zP
      subst e2
      have fin : ∀ (r : Value), hdrL (look fd.scope ρ' me) = some ps' → Rep (UU (fun b => P b ∨ b = a) env X2) h3 r d → WrPost P s a ps' d r { s with heap := h3, toks := tk2 } := fun r hl hr => by
        have hl' : look env.scope ρ' me = some (.hdr ps') := by rw [hS]; exact hdrL_eq hl
        have keep : ∀ b o, b ≠ a → s.heap.get? b = some o → h3.get? b = some o := fun b o hb e => t2.base b o (sub b o (by (try dsimp only); rw [if_neg hb]; exact st1 _ _ e))
        obtain ⟨v, _, y', dx', hs', tk', a', vs', n', ⟨_, rfl, rfl⟩, _, _, hX, ho, r2⟩ := t2.vars _ _ hl'
        have down : ∀ b, UU (fun b => P b ∨ b = a') env X2 b → P b := fun b u => u.1.elim id fun z => absurd z.symm (u.2.2 _ hX)
        exact ⟨h3, tk2, vs', n', rfl, keep, ho, r2.mono down, hr.mono down⟩
      cases fl with
      | next =>
        cases g <;> try exact hfl.elim
        cases hd : hdrL (look fd.scope ρ' me) with
        | none => rw [outO, hd] at q; cases q
        | some ps2 =>
          rw [outO, hd] at q
          cases q
          exact fin .none hd .none'
      | ret d' =>
        cases g <;> try exact hfl.elim
        cases hd : hdrL (look fd.scope ρ' me) with
        | none => rw [outO, hd] at q; cases q
        | some ps2 =>
          rw [outO, hd] at q
          cases q
          exact fin _ hd hfl
      | brk => cases q
      | cont => cases q
theorem meth_obj {f : Addr} {xs : List Str} {body : List Stmt} {sc : Scope} (MF : MethFn H0 f xs [] body sc) : ObjFn H0 f "self" xs [] [] body sc := by
  obtain ⟨fd, FA, hfd, hsc, hbody, hbind⟩ := MF.has
  refine ⟨⟨fd, FA, hfd, hsc, hbody, fun s0 hst self vals hl => ⟨s0.heap, [], [], Stays.refl _, .nil, rfl, (fun _ m => nomatch m), ?_⟩⟩, MF.dist, MF.own⟩
  rw [List.append_nil]
  exact hbind s0 hst self vals hl
theorem meth_wr0 {Φ : Tab} {srt : PyData → Option PyData} {sh : SHook} {mu : List Str} {N : Nat} (PS : ∀ ok, SpecOk prog w mg H0 ⟨Ca, ok⟩ Φ k) (T : SortOk prog w srt) (G : Ground0 mg mb H0) (SH : ∀ ok, StmtOk prog w ⟨Ca, ok⟩ H0 k sh) {f : Addr} {xs : List Str} {body : List Stmt} {sc : Scope} (MF : MethFn H0 f xs [] body sc)
    {n : Nat} {ps ps' args : List PyData} {d : PyData} (q : runM (ev Φ srt N) sh mu n xs [] body sc (.hdr ps) args = some (d, some ps'))
    {A : Around} {s : Shared} {P : Addr → Prop} {y a : Addr} {vs vargs : List Value} {n0 : Nat} (rm : Room A (k + 1)) (hst : Stays H0 s.heap) (Hy : HdrAt Ca s.heap y a) (ha0 : H0.get? a = none) (ha : s.heap.get? a = some (lst vs n0))
    (rr : RepAll P s.heap vs ps) (hP : ¬ P a) (fr : ∀ b, s.heap.get? b = none → P b) (ra : RepAll P s.heap vargs args) :
    wpAny (model prog w) A (call (.ref f) (.ref y :: vargs)) (WrPost P s a ps' d) NoE s := by
  refine obj_wr G (meth_obj MF) (F := exs (ev Φ srt N) mu sc sh n body) (fun ok A P env e rm => exs_blk (PS ok) T G (SH ok) A P env e rm) ?_ rm hst Hy ha0 ha rr hP fr ra
  unfold runO objRho
  rw [List.append_nil]
  exact q
end
end Mine

namespace Mine
open PySem PySem.Calls PySem.Spec PyProof.Rows PySem.W PySem.SeqAt

/-- only these names, in this order -/
noncomputable def keepR (xs : List Str) (ρ : Rho) : Rho := xs.filterMap fun x => (ρ.lookup x).map fun e => (x, e)
theorem keepR_lookup {ρ : Rho} {x : Str} {e : Ent} : ∀ {xs : List Str}, (keepR xs ρ).lookup x = some e → ρ.lookup x = some e
  | [], q => by cases q
  | y :: xs, q => by
    unfold keepR at q
    rw [List.filterMap_cons] at q
    cases hy : ρ.lookup y with
    | none => rw [hy] at q; exact keepR_lookup (xs := xs) q
    | some e' =>
      rw [hy] at q
      simp only [Option.map_some, List.lookup_cons] at q
      cases hxy : x == y with
      | true =>
        rw [hxy] at q
        cases q
        rw [beq_iff_eq.mp hxy]; exact hy
      | false =>
        rw [hxy] at q
        exact keepR_lookup (xs := xs) q
section
variable {prog : Program} {w : World} {A : Around} {C : Cls} {H0 : Heap} {P : Addr → Prop} {B : Addr → Option Obj} {env : Env} {own : Str → Bool} {X : List (Str × Addr)} {ρ ρ' : Rho} {h : Heap} {k : Nat} {mg mb : Str → Option Value}
variable {Φ : Tab} {srt : PyData → Option PyData} {mu : List Str} {N : Nat} {sh : SHook} {nz : List Stmt → Rho → Rho}
theorem St.less (t : St C H0 P B env own X ρ h) (d : ∀ x e, ρ'.lookup x = some e → ρ.lookup x = some e) : St C H0 P B env own X ρ' h :=
  { t with vars := fun x e q => t.vars x e (by
      unfold look at q ⊢
      split at q
      · rename_i hc; rw [if_pos hc]; exact d x e q
      · cases q) }
/-! the same, ahead of each statement -/
section
variable (r : Md → Scope → Rho → Expr → Option PyData) (mu : List Str) (sc : Scope) (sh : SHook) (nz : Stmt → Rho → Rho)
noncomputable def exSt (rs : List Stmt → Rho → Option (Fl × Rho)) (st : Stmt) (ρ : Rho) : Option (Fl × Rho) := (sh r sc (nz st ρ) st).or (ex1 r mu sc rs (nz st ρ) st)
noncomputable def exLS (rs : List Stmt → Rho → Option (Fl × Rho)) : List Stmt → Rho → Option (Fl × Rho)
  | [], ρ => some (.next, ρ)
  | st :: rest, ρ => (exSt r mu sc sh nz rs st ρ).bind fun q => match q.1 with
      | .next => exLS rs rest q.2
      | f => some (f, q.2)
noncomputable def exsS : Nat → List Stmt → Rho → Option (Fl × Rho)
  | 0, _, _ => none
  | n + 1, l, ρ => exLS r mu sc sh nz (exsS n) l ρ
end
noncomputable def DropsS (nz : Stmt → Rho → Rho) : Prop := ∀ l ρ x e, (nz l ρ).lookup x = some e → ρ.lookup x = some e
theorem exLS_ok {nz : Stmt → Rho → Rho} (PS : SpecOk prog w mg H0 C Φ k) (T : SortOk prog w srt) (G : Ground0 mg mb H0) (rm : Room A k) (SH : StmtOk prog w C H0 k sh) (D : DropsS nz) {rs : List Stmt → Rho → Option (Fl × Rho)} (hrs : ∀ l, BlockOk prog w A C H0 P env (own1 env.scope) l (rs l)) :
    ∀ l, BlockOk prog w A C H0 P env (own1 env.scope) l (exLS (ev Φ srt N) mu env.scope sh nz rs l)
  | [] => fun ρ fl ρ' B X s q t => by
    cases q
    exact wpAny_execs_nil ⟨B, X, s.heap, s.toks, rfl, fun _ _ z => z, t, trivial⟩
  | st :: rest => fun ρ fl ρ' B X s q t => by
    unfold exLS at q
    obtain ⟨⟨fl1, ρ1⟩, h1, q⟩ := Option.bind_eq_some_iff.mp q
    have t' := t.less (D st ρ)
    unfold exSt at h1
    have h1' : wpAny (model prog w) A (exec st env) (ExPost C H0 P B env (own1 env.scope) s fl1 ρ1) NoE s := by
      cases z : sh (ev Φ srt N) env.scope (nz st ρ) st with
      | none => rw [z] at h1; exact ex1_ok PS T G rm t' hrs h1
      | some q' => rw [z] at h1; cases h1; exact SH _ (ev_ok PS T G N) (fun _ _ _ _ _ _ _ c rm hf q => evFresh_ok PS T G c rm q hf) _ ρ1 st fl1 env A s P B X z t' rm
    refine wpAny_execs_cons (wpAny_mono h1' (fun g s' x => ?_) fun _ _ z => z)
    have x' := x
    obtain ⟨B1, X1, h₁, tk₁, e₁, sub, t1, hfl⟩ := x
    subst e₁
    cases g <;> cases fl1 <;> first | exact hfl.elim | skip
    · exact wpAny_mono (exLS_ok PS T G rm SH D hrs rest ρ1 fl ρ' B1 X1 { s with heap := h₁, toks := tk₁ } q t1) (fun _ _ z => exPost_from sub z) fun _ _ z => z
    · cases q; exact x'
    · cases q; exact x'
    · cases q; exact x'
theorem exsS_ok {nz : Stmt → Rho → Rho} (PS : SpecOk prog w mg H0 C Φ k) (T : SortOk prog w srt) (G : Ground0 mg mb H0) (rm : Room A k) (SH : StmtOk prog w C H0 k sh) (D : DropsS nz) : ∀ n l, BlockOk prog w A C H0 P env (own1 env.scope) l (exsS (ev Φ srt N) mu env.scope sh nz n l)
  | 0, _ => fun _ _ _ _ _ _ q _ => nomatch q
  | n + 1, l => exLS_ok PS T G rm SH D (exsS_ok PS T G rm SH D n) l
theorem exsS_blk {nz : Stmt → Rho → Rho} (PS : SpecOk prog w mg H0 C Φ k) (T : SortOk prog w srt) (G : Ground0 mg mb H0) (SH : StmtOk prog w C H0 k sh) (D : DropsS nz) {body : List Stmt} {sc : Scope} {n : Nat} (A : Around) (P : Addr → Prop) (env : Env) (e : env.scope = sc) (rm : Room A k) :
    BlockOk prog w A C H0 P env (own1 env.scope) body (exsS (ev Φ srt N) mu sc sh nz n body) := by
  subst e
  exact exsS_ok PS T G rm SH D n body
noncomputable def nzS (tb : List (Nat × List Str)) (st : Stmt) (ρ : Rho) : Rho := match tb.lookup (lineOf st) with
  | some xs => keepR xs ρ
  | none => ρ
where lineOf (st : Stmt) : Nat := st.pos.line
theorem nzS_drops (tb : List (Nat × List Str)) : DropsS (nzS tb) := fun l ρ x e q => by
  unfold nzS at q
  split at q
  · exact keepR_lookup q
  · exact q
end
section
variable {r : Md → Scope → Rho → Expr → Option PyData} {mu : List Str} {sc : Scope} {sh : SHook} {nz : Stmt → Rho → Rho} {rs : List Stmt → Rho → Option (Fl × Rho)} {st : Stmt} {rest : List Stmt} {ρ ρ1 : Rho}
theorem exLS_next (h : exSt r mu sc sh nz rs st ρ = some (.next, ρ1)) : exLS r mu sc sh nz rs (st :: rest) ρ = exLS r mu sc sh nz rs rest ρ1 := by
  conv => lhs; unfold exLS
  rw [h]; rfl
theorem exLS_ret {d : PyData} (h : exSt r mu sc sh nz rs st ρ = some (.ret d, ρ1)) : exLS r mu sc sh nz rs (st :: rest) ρ = some (.ret d, ρ1) := by
  conv => lhs; unfold exLS
  rw [h]; rfl
end
end Mine

namespace Mine
open PySem PySem.Calls PySem.Spec PyProof.Rows PySem.W PySem.SeqAt

section
variable {prog : Program} {w : World} {A : Around} {s : Shared} {env : Env} {C : Cls} {H0 : Heap} {P U : Addr → Prop} {B : Addr → Option Obj} {own : Str → Bool} {X : List (Str × Addr)} {ρ ρ' : Rho} {h h' : Heap} {k : Nat} {mg mb : Str → Option Value} {K : Frag}
variable {r : Md → Scope → Rho → Expr → Option PyData}

/-! for k, v in x.items(), where x is what ** bound: an empty dict -/
theorem par_ok (t : St C H0 P B env own X ρ s.heap) (rm : Room A k) {x : Str} (hx : look env.scope ρ x = some .kwd) {xp ap cp pos : Pos} {tg : Expr} {body : List Stmt} (hl : (ap.endLine == cp.line) = true) :
    wpAny (model prog w) A (exec (.For tg (.Call (.Attribute (.Name x xp) "items" ap) [] [] cp) body [] pos) env) (ExPost C H0 P B env own s .next ρ) NoE s := by
  obtain ⟨v, hv, d, rfl, hb, hs⟩ := t.vars _ _ hx
  have ho := t.base _ _ hb
  have hd : (d == sysModules) = false := beq_eq_false_iff_ne.mpr hs
  have hD : s.heap.DictAt (strKind prog w) d [] 0 := ⟨kwObj, #[], ho, ⟨rfl, rfl, rfl⟩, rfl, (fun e he => by simp at he), .nil, List.nodup_nil⟩
  refine wpAny_For (wpAny_Call_method_lateS rfl rfl hl (look_load t.fn hx hv ?_)) (by intro _; rfl)
  refine ⟨"dict", "dict.items", PySem.F.plainAttrs_dict, PySem.F.slot_dict_items, PySem.F.type_dict_items, ⟨_, ho, rfl⟩, (fun a e => by cases e; exact ⟨_, ho, rfl⟩), ?_⟩
  refine callWith_method0 (call_meetsIn PySem.F.slot_dict_items ⟨_, ho, rfl⟩ PySem.F.entry_dict_items (PySem.F.args_dict_items_1 _) (meets_dict_items (strKind prog w) d hd) ⟨⟨[], hD.dictOf⟩, ?_⟩)
  generalize hH1 : s.heap.push { cls := .type "dict_items", data := .fields #[.ref d] } = H1
  have st1 : Stays s.heap H1 := fun b o e => by rw [← hH1]; exact Heap.get?_push_of_some _ e
  have hview : H1.IsItemsView s.heap.objs.size d := ⟨_, (by rw [← hH1]; exact Heap.get?_push_size _ rfl), rfl, rfl⟩
  have n1 : s.heap.objs.size < H1.objs.size := by obtain ⟨o, ho, _⟩ := hview; exact Heap.lt_size ho
  have hD1 : H1.DictAt (strKind prog w) d [] 0 := hD.keep st1
  refine wpAny_pyIter_items (knd := strKind prog w) (kvs := []) (ep := 0) hview hD1 ?_
  generalize hH2 : H1.push _ = H2
  have st2 : Stays H1 H2 := fun b o e => by rw [← hH2]; exact Heap.get?_push_of_some _ e
  have hD2 : H2.DictAt (strKind prog w) d [] 0 := hD1.keep st2
  refine codeAny_forLoop_any (fun _ s' => s' = { s with heap := H2 }) ?_ 0 rfl
  rintro n s' rfl
  refine wpAny_pyNext_items_end (knd := strKind prog w) (kvs := []) (i := 0) (ep := 0) rm.handled (by rw [← hH2]; exact Heap.get?_push_size _ rfl) hD2 rfl fun h' hx => ?_
  have st3 : Stays s.heap h' := fun b o e => hx b o (fun z => by
    have := Heap.lt_size e
    rw [z] at this
    exact absurd (Nat.lt_trans n1 this) (Nat.lt_irrefl _)) (st2 _ _ (st1 _ _ e))
  exact wpAny_execs_nil ⟨B, X, h', _, rfl, fun _ _ z => z, t.stays st3, trivial⟩
noncomputable def isKwd : Option Ent → Bool
  | some .kwd => true
  | _ => false
theorem isKwd_eq {o : Option Ent} (q : isKwd o = true) : o = some .kwd := by
  cases o with
  | none => cases q
  | some e =>
    cases e with
    | kwd => rfl
    | _ => cases (show false = true from q)
noncomputable def hkPar : SHook := fun _ sc ρ st => match st with
  | .For _ it _ orelse _ => (callOf it).bind fun c => (nameOfE c.1).bind fun x =>
      if (c.2.1 == ("items" : Str)) && (c.2.2.1.endLine == c.2.2.2.2.2.line) && c.2.2.2.1.isEmpty && c.2.2.2.2.1.isEmpty && orelse.isEmpty && isKwd (look sc ρ x) then some (.next, ρ) else none
  | _ => none
theorem hkPar_ok : StmtOk prog w C H0 k hkPar := by
  intro r _ _ ρ ρ' st fl env A s P B X q t rm
  show Runs prog w A C H0 P B env s fl ρ' st
  cases st with
  | For tg it body orelse pos =>
    obtain ⟨⟨o, m, ap, args, kws, cp⟩, hc, q1⟩ := Option.bind_eq_some_iff.mp q
    obtain ⟨x, hx, q2⟩ := Option.bind_eq_some_iff.mp q1
    have he := callOf_eq hc
    obtain ⟨xp, hxp⟩ := nameOfE_eq hx
    have hh := (iteS q2).1
    cases (iteS q2).2
    simp only [Bool.and_eq_true, List.isEmpty_iff] at hh
    obtain ⟨⟨⟨⟨⟨h1, h2⟩, h3⟩, h4⟩, h5⟩, h6⟩ := hh
    have h1 := beq_iff_eq.mp h1
    dsimp only at hxp
    subst he hxp h1 h3 h4 h5
    exact par_ok t rm (isKwd_eq h6) h2
  | _ => exact noSome q

/-! sep.join(x), where x may be a list that a name owns -/
noncomputable def hkJn : EHook := fun r sc ρ e => (callOf e).bind fun c => (strOfE c.1).bind fun sep => (arg1 c.2.2.2.1).bind fun a =>
  if c.2.2.2.2.1.isEmpty && (c.2.2.1.endLine == c.2.2.2.2.2.line) && (c.2.1 == ("join" : Str)) && !isStar a then (r .read sc ρ a).bind (joinD sep) else none
theorem hkJn_ok {fn : Str → List PyData → Option PyData} : HookOk prog w H0 C ⟨fn, hkJn⟩ k := by
  intro r S ρ e d env A s U q c rm
  obtain ⟨⟨o, m, ap, args, kws, cp⟩, hc, q1⟩ := Option.bind_eq_some_iff.mp q
  obtain ⟨sep, hsep, q2⟩ := Option.bind_eq_some_iff.mp q1
  obtain ⟨a, ha, q3⟩ := Option.bind_eq_some_iff.mp q2
  have he := callOf_eq hc
  obtain ⟨sk, sp, hs0⟩ := strOfE_eq hsep
  have ha' := arg1_eq ha
  have hl := (iteS q3).1
  obtain ⟨x, hx, q4⟩ := Option.bind_eq_some_iff.mp (iteS q3).2
  simp only [Bool.and_eq_true, beq_iff_eq, Bool.not_eq_true', List.isEmpty_iff] at hl
  obtain ⟨⟨⟨hk, hline⟩, hm⟩, hs⟩ := hl
  dsimp only at hs0 ha'
  subst he hs0 ha' hk hm
  cases x with
  | list ds =>
    obtain ⟨ys, hys, q5⟩ := Option.bind_eq_some_iff.mp q4
    have hlen := (iteS q5).1
    cases (iteS q5).2
    rw [Bool.and_eq_true, decide_eq_true_eq, decide_eq_true_eq] at hlen
    refine wpAny_Call_method_lateS rfl (by rw [star_cons hs]; rfl) (beq_iff_eq.mpr hline) (evConst (U := U) rfl fun v h₁ tk₁ st₁ rv => ?_)
    obtain ⟨t, rfl⟩ := rv.strInv
    refine ⟨"str", "str.join", PySem.F.plainAttrs_str, PySem.F.slot_str_join, PySem.F.type_str_join, typeIs_str _ _ _, (fun a e => nomatch e), ?_⟩
    refine callWith_method1 (rest := []) (wpAny_items_cons ?_ (star_cons hs)) (star_cons hs) rfl
    refine thenR ((S _ _ _ _ _ _ { s with heap := h₁, toks := tk₁ } _ rfl (c.stays st₁) rm).2.1 hx) fun v h₂ tk₂ st₂ rl => wpAny_items_nil ?_
    obtain ⟨a, vs, rfl, hl, rr⟩ := rl
    refine join_listW (s := { s with heap := h₂, toks := tk₂ }) hl (by simpa using strsD_are rr hys) hlen.1 hlen.2 fun t' k => ?_
    exact ⟨h₂, k, rfl, st₁.trans st₂, .str _ _⟩
  | _ => exact noSome q4

/-! f(x, …), where x is a table object -/
inductive FwAt (prog : Program) (w : World) (mg : Str → Option Value) (H0 : Heap) (Ca : Addr) (k : Nat) (f : Str) (ps args ps' : List PyData) (d : PyData) : Prop
  | mk (a : Addr) (o : Obj) (fd : FuncData) (e1 : mg f = some (.ref a)) (e2 : H0.get? a = some o) (e3 : o.data = .func fd) (g : ∀ (A : Around) (s : Shared) (P : Addr → Prop) (y l : Addr) (vs vargs : List Value) (n : Nat), Room A k → Stays H0 s.heap → HdrAt Ca s.heap y l → H0.get? l = none → s.heap.get? l = some (lst vs n) → RepAll P s.heap vs ps → ¬ P l →
    (∀ b, s.heap.get? b = none → P b) → RepAll P s.heap vargs args → wpAny (model prog w) A (call (.ref a) (.ref y :: vargs)) (WrPost P s l ps' d) NoE s)
noncomputable def FwOk (prog : Program) (w : World) (mg : Str → Option Value) (H0 : Heap) (Ca : Addr) (k : Nat) (wf : Str → List PyData → List PyData → Option (List PyData × PyData)) : Prop := ∀ f ps args ps' d, wf f ps args = some (ps', d) → FwAt prog w mg H0 Ca k f ps args ps' d
theorem fw_use {wf : Str → List PyData → List PyData → Option (List PyData × PyData)} (FW : FwOk prog w mg H0 C.addr k wf) (rm : Room A k) (t : St C H0 P B env own X ρ h) {x f : Str} {ps ps' args : List PyData} {d : PyData} (hx : look env.scope ρ x = some (.hdr ps)) (q : wf f ps args = some (ps', d)) :
    ∃ a o fd y, mg f = some (.ref a) ∧ H0.get? a = some o ∧ o.data = .func fd ∧ VarHas h env x (.ref y) ∧ Stays H0 h ∧
      ∀ (s₁ : Shared) (vargs : List Value), Stays h s₁.heap → RepAll (UU P env X) s₁.heap vargs args →
        wpAny (model prog w) A (call (.ref a) (.ref y :: vargs)) (fun r s' => ∃ h' tk, s' = { s₁ with heap := h', toks := tk } ∧ St C H0 P B env own X (ρ.set x (.hdr ps')) h' ∧ Rep (UU P env X) h' r d) NoE s₁ := by
  obtain ⟨v, hv, y, dx, hs, tk, a, vs, n, ⟨rfl, ok⟩, e2, e3, e4, e5, rr⟩ := t.vars x _ hx
  obtain ⟨fa, o, fd, m1, m2, m3, hf⟩ := FW _ _ _ _ _ q
  obtain ⟨hb, _⟩ := t.xs _ e4
  have hy : HdrAt C.addr h y a := ⟨dx, hs, tk, t.base _ _ e2, t.base _ _ e3⟩
  have h0 : Stays H0 h := fun b o e => t.base b o (t.h0 b o e)
  refine ⟨fa, o, fd, y, m1, m2, m3, hv, h0, fun s₁ vargs st₁ ra => ?_⟩
  have t1 := t.stays st₁
  refine wpAny_mono (hf A s₁ (UU P env X) y a vs vargs n rm (h0.trans st₁) (hy.stays st₁) ?_ (st₁ _ _ e5) (rr.stays st₁) (fun z => z.2.2 _ e4 rfl) t1.freshU ra) (fun r s' zP => ?_) fun _ _ z => z
  · cases z : H0.get? a with
    | none => rfl
    | some o => have := t.h0 a o z; rw [hb] at this; cases this
  · obtain ⟨h', tk', vs', n', es, kp, ho, r1, r2⟩ := zP
    exact ⟨h', tk', es, (t1.wrHdr hx (hv.stays st₁) e4 kp ho r1).1, r2⟩
/-- a plain call, read off an expression -/
noncomputable def plainOf : Expr → Option (Str × Expr × List Expr × List Keyword)
  | .Call f args kws _ => (match f with
    | .Name f _ => (match args with
      | a :: as => some (f, a, as, kws)
      | [] => none)
    | _ => none)
  | _ => none
theorem plainOf_eq {e a : Expr} {f : Str} {as : List Expr} {kws : List Keyword} (q : plainOf e = some (f, a, as, kws)) : ∃ fp cp, e = .Call (.Name f fp) (a :: as) kws cp := by
  cases e with
  | Call g b c p =>
    cases g with
    | Name g fp =>
      cases b with
      | nil => exact noSome q
      | cons b bs => cases q; exact ⟨_, _, rfl⟩
    | _ => exact noSome q
  | _ => exact noSome q
noncomputable def hkFw (wf : Str → List PyData → List PyData → Option (List PyData × PyData)) : SHook := fun r sc ρ st => match st with
  | .Expr e _ => (plainOf e).bind fun c => (nameOfE c.2.1).bind fun x => if (sc.names.lookup c.1 == some .globalImplicit) && okName c.1 && c.2.2.2.isEmpty then
      (hdrOf sc ρ x).bind fun ps => (evL r sc ρ c.2.2.1).bind fun ds => (wf c.1 ps ds).bind fun q => if scalarD q.2 then some (.next, ρ.set x (.hdr q.1)) else none else none
  | _ => none
theorem hkFw_ok {wf : Str → List PyData → List PyData → Option (List PyData × PyData)} (G : Ground0 mg mb H0) (FW : FwOk prog w mg H0 C.addr k wf) : StmtOk prog w C H0 k (hkFw wf) := by
  intro r S _ ρ ρ' st fl env A s P B X q t rm
  show Runs prog w A C H0 P B env s fl ρ' st
  cases st with
  | Expr e pos =>
    obtain ⟨⟨f, a, as, kws⟩, hc, q1⟩ := Option.bind_eq_some_iff.mp q
    obtain ⟨x, hx, q2⟩ := Option.bind_eq_some_iff.mp q1
    obtain ⟨fp, cp, he⟩ := plainOf_eq hc
    obtain ⟨xp, hxp⟩ := nameOfE_eq hx
    have hh := (iteS q2).1
    obtain ⟨ps, hps, q3⟩ := Option.bind_eq_some_iff.mp (iteS q2).2
    obtain ⟨ds, hds, q4⟩ := Option.bind_eq_some_iff.mp q3
    obtain ⟨⟨ps', d'⟩, hw, q5⟩ := Option.bind_eq_some_iff.mp q4
    have hsc := (iteS q5).1
    cases (iteS q5).2
    simp only [okName, Bool.and_eq_true, beq_iff_eq, Bool.not_eq_true', List.isEmpty_iff] at hh
    obtain ⟨⟨hg, hdb, _⟩, hkw⟩ := hh
    dsimp only at hxp
    subst he hxp hkw
    have hps := hdrOf_eq hps
    obtain ⟨fa, o, fd, y, m1, m2, m3, hv, h0, hf⟩ := fw_use FW rm t hps hw
    refine wpAny_Expr (Call_ (glob_ok G t.cx hg hdb m1 ?_)) (inter_false t.fn) rfl
    refine callWith_def m3 (wpAny_items_cons (look_load t.fn hps hv ?_) (star_cons rfl)) (star_cons rfl)
    refine wpAny_mono (evL_ok S rm _ _ ds s t.cx hds) (fun vs s₁ zP => ?_) fun _ _ z => z
    obtain ⟨h₁, tk₁, e₁, st₁, rr⟩ := zP
    subst e₁
    refine ⟨(h0.trans st₁) _ _ m2, ?_⟩
    refine wpAny_mono (hf { s with heap := h₁, toks := tk₁ } vs st₁ rr) (fun r s' zP => ?_) fun _ _ z => z
    obtain ⟨h', tk', es, t', rd⟩ := zP
    subst es
    rcases rd.scalar hsc with rfl | ⟨y', t9, rfl⟩
    · exact exPost_next t'
    · exact exPost_next t'
  | _ => exact noSome q
end
end Mine

namespace Mine
open PySem PySem.Calls PySem.Spec PyProof.Rows PySem.W PySem.SeqAt

noncomputable abbrev pw := PySem.Challenge.pw_pe0170_01
noncomputable def NL : List Str := ["a", "A", "b"]
noncomputable def VL : List Str := ["0", "1", "", "x", "y"]
noncomputable def pr (a b : Str) : PyData := .tuple [.str a, .str b]
noncomputable def PL : List PyData := NL.flatMap fun n => VL.map fun v => pr n v
noncomputable def inPL : PyData → Bool
  | .tuple [.str n, .str v] => NL.contains n && VL.contains v
  | _ => false
noncomputable def okPs (ps : List PyData) : Bool := ps.all inPL && decide (ps.length ≤ 12)
noncomputable def lowK : PyData → Str
  | .tuple (.str n :: _) => Txt.lower n
  | _ => ⟨#[]⟩
theorem fours : ∀ k, k < 4 → k = 0 ∨ k = 1 ∨ k = 2 ∨ k = 3 := by decide
theorem four {k : Nat} (h : k < 4) : k = 0 ∨ k = 1 ∨ k = 2 ∨ k = 3 := fours k h
theorem noB {P : Prop} (h : false = true) : P := Bool.noConfusion h
theorem inPL_mem {d : PyData} (e : inPL d = true) : ∃ n ∈ NL, ∃ v ∈ VL, d = pr n v := by
  cases d with
  | tuple l =>
    rcases l with _ | ⟨a, _ | ⟨b, _ | ⟨c, l⟩⟩⟩
    · exact noB e
    · cases a with | _ => exact noB e
    · cases a with
      | str n =>
        cases b with
        | str v =>
          rw [show inPL _ = (NL.contains n && VL.contains v) from rfl, Bool.and_eq_true] at e
          exact ⟨n, List.contains_iff_mem.mp e.1, v, List.contains_iff_mem.mp e.2, rfl⟩
        | _ => exact noB e
      | _ => exact noB e
    · cases a with
      | str n => cases b with | _ => exact noB e
      | _ => exact noB e
  | _ => exact noB e
theorem inPL_PL {d : PyData} (e : inPL d = true) : d ∈ PL := by
  obtain ⟨n, hn, v, hv, rfl⟩ := inPL_mem e
  exact List.mem_flatMap.mpr ⟨n, hn, List.mem_map.mpr ⟨v, hv, rfl⟩⟩
theorem okPs_PL {ps : List PyData} (e : okPs ps = true) : ∀ d ∈ ps, d ∈ PL := fun d hd => inPL_PL (List.all_eq_true.mp (Bool.and_eq_true_iff.mp e).1 d hd)
theorem okPs_len {ps : List PyData} (e : okPs ps = true) : ps.length ≤ 12 := of_decide_eq_true (Bool.and_eq_true_iff.mp e).2
theorem PL_noL : ∀ d ∈ PL, noL d = true := by decide +kernel
theorem noLs_all : ∀ {ps : List PyData}, (∀ d ∈ ps, noL d = true) → noLs ps = true
  | [], _ => rfl
  | d :: ds, h => by
    unfold noLs
    rw [h d List.mem_cons_self, noLs_all fun d' hd => h d' (List.mem_cons_of_mem _ hd)]; rfl
theorem okPs_noL {ps : List PyData} (e : okPs ps = true) : noLs ps = true := noLs_all fun d hd => PL_noL d (okPs_PL e d hd)

/-! __delitem__ -/
noncomputable abbrev R0 (n : Nat) := ev ⟨noFnT, hkE T0⟩ noSrt n
noncomputable abbrev fDel := methFn pw "__delitem__"
noncomputable def delφ (n : Str) (d : PyData) : Option PyData := if lowK d == Txt.lower n then none else some d
noncomputable def delP (n : Str) (ps : List PyData) : List PyData := ps.filterMap (delφ n)
noncomputable abbrev delLC := lcOf (rhsOf (stAt fDel.body 1))
noncomputable def delρ (n : Str) (ps : List PyData) : Rho := [("name", .val (.str (Txt.lower n))), ("self", .hdr ps)]
theorem del_items : NL.map (fun n => PL.map fun d => evG1 (R0 39) delLC.2.2 (relabelS delLC.2.2 fDel.scope) delLC.1 (gAt delLC.2.1) [("name", .val (.str (Txt.lower n)))] d) = NL.map fun n => PL.map fun d => some (delφ n d) := by kernel_rfl
theorem del_body : fDel.body = [stAt fDel.body 0, stAt fDel.body 1] := by kernel_rfl
theorem del_s1 (ps : List PyData) : NL.map (fun n => (hkS T0 (R0 40) fDel.scope (methRho (.hdr ps) ["name"] [] [.str n]) (stAt fDel.body 0)).or (ex1 (R0 40) [] fDel.scope (exs (R0 40) [] fDel.scope (hkS T0) 9) (methRho (.hdr ps) ["name"] [] [.str n]) (stAt fDel.body 0))) = NL.map fun n => some (.next, delρ n ps) := by kernel_rfl
theorem del_s2 (ps : List PyData) (n : Str) : (hkS T0 (R0 40) fDel.scope (delρ n ps) (stAt fDel.body 1)) = ((evG (R0 39) delLC.2.2 (relabelS delLC.2.2 fDel.scope) delLC.1 delLC.2.1 [("name", .val (.str (Txt.lower n)))] (some ps)).bind mkList).bind fun d => (listD d).bind fun es => if noLs es && decide (ps.length + es.length ≤ top) then some (.next, (delρ n ps).set "self" (.hdr es)) else none := by kernel_rfl

theorem del_lc : delLC.2.1 = [gAt delLC.2.1] := by kernel_rfl
theorem delφ_PL : NL.all (fun n => PL.all fun d => match delφ n d with | some e => inPL e | none => true) = true := by decide +kernel
theorem delP_ok {n : Str} (hn : n ∈ NL) {ps : List PyData} (h : okPs ps = true) : okPs (delP n ps) = true := by
  unfold okPs
  rw [Bool.and_eq_true, decide_eq_true_eq]
  refine ⟨List.all_eq_true.mpr fun e he => ?_, Nat.le_trans (List.length_filterMap_le _ _) (okPs_len h)⟩
  obtain ⟨d, hd, hde⟩ := List.mem_filterMap.mp he
  have := List.all_eq_true.mp (List.all_eq_true.mp delφ_PL n hn) d (okPs_PL h d hd)
  rw [hde] at this
  exact this
theorem le_top {n : Nat} (h : n ≤ 1000) : n ≤ top := by unfold top; omega
theorem mkList_ok {ds : List PyData} (h : ds.length ≤ 1000) : mkList ds = some (.list ds) := if_pos (le_top h)

theorem del_run {n : Str} (hn : n ∈ NL) {ps : List PyData} (h : okPs ps = true) : runM (R0 40) (hkS T0) [] 10 ["name"] [] fDel.body fDel.scope (.hdr ps) [.str n] = some (.none, some (delP n ps)) := by
  refine (if_pos rfl).trans ?_
  show outOf _ (exL (R0 40) [] fDel.scope (hkS T0) (exs (R0 40) [] fDel.scope (hkS T0) 9) fDel.body _) = _
  have hp := delP_ok hn h
  rw [del_body, exL_next (of_map_eq (del_s1 ps) n hn)]
  have h2 : hkS T0 (R0 40) fDel.scope (delρ n ps) (stAt fDel.body 1) = some (.next, (delρ n ps).set "self" (.hdr (delP n ps))) := by
    rw [del_s2, del_lc, evG_flat (fun d hd => of_map_eq (of_map_eq del_items n hn) d (okPs_PL h d hd)), Option.bind_some]
    show ((mkList (delP n ps)).bind _) = _
    rw [mkList_ok (Nat.le_trans (okPs_len hp) (by omega)), Option.bind_some]
    refine (if_pos ?_ : (if noLs (delP n ps) && decide (ps.length + (delP n ps).length ≤ top) then _ else _) = _)
    rw [Bool.and_eq_true, decide_eq_true_eq]
    exact ⟨okPs_noL hp, le_top (by have := okPs_len h; have := okPs_len hp; omega)⟩
  rw [exL_next (by rw [h2]; rfl)]
  rfl


/-! get -/
noncomputable abbrev fGet := methFn pw "get"
noncomputable def valOf : PyData → PyData
  | .tuple [_, v] => v
  | _ => .none
noncomputable def getP (n : Str) : List PyData → PyData
  | [] => .none
  | d :: ps => if lowK d == Txt.lower n then valOf d else getP n ps
noncomputable abbrev getFor := forOf (stAt fGet.body 1)
/-- before the loop; in a turn -/
noncomputable def getρ (n : Str) (ps : List PyData) : Rho := [("name", .val (.str (Txt.lower n))), ("self", .slf ps), ("default", .val .none)]
noncomputable def getρd (n : Str) (ps : List PyData) : PyData → Rho
  | .tuple [.str k, .str v] => ("v", .val (.str v)) :: ("k", .val (.str k)) :: getρ n ps
  | _ => getρ n ps
noncomputable def initB : PyData → List (Str × PyData)
  | .tuple [n, v] => [("k", n), ("v", v)]
  | _ => []
theorem get_body : fGet.body = [stAt fGet.body 0, stAt fGet.body 1, stAt fGet.body 2] := by kernel_rfl
theorem get_s0 (ps : List PyData) : NL.map (fun n => (hkS T0 (R0 40) fGet.scope (methRho (.slf ps) ["name"] ["default"] [.str n]) (stAt fGet.body 0)).or (ex1 (R0 40) [] fGet.scope (exs (R0 40) [] fGet.scope (hkS T0) 9) (methRho (.slf ps) ["name"] ["default"] [.str n]) (stAt fGet.body 0))) = NL.map fun n => some (.next, getρ n ps) := by kernel_rfl
theorem get_s1 (n : Str) (ps : List PyData) : (hkS T0 (R0 40) fGet.scope (getρ n ps) (stAt fGet.body 1)).or (ex1 (R0 40) [] fGet.scope (exs (R0 40) [] fGet.scope (hkS T0) 9) (getρ n ps) (stAt fGet.body 1)) = forL fGet.scope (exs (R0 40) [] fGet.scope (hkS T0) 9 getFor.2) getFor.1 ps (getρ n ps) := by kernel_rfl
theorem get_turn (ps : List PyData) : NL.map (fun n => PL.map fun d => exs (R0 40) [] fGet.scope (hkS T0) 9 getFor.2 (getρd n ps d)) = NL.map fun n => PL.map fun d => some (if lowK d == Txt.lower n then (.ret (valOf d), freeze (getρd n ps d)) else (.next, getρd n ps d)) := by kernel_rfl
theorem get_bind : PL.map (fun d => bindD getFor.1 d) = PL.map fun d => some (initB d) := by kernel_rfl
theorem get_own : PL.all (fun d => (initB d).all fun p => own1 fGet.scope p.1) = true := by decide +kernel
theorem get_end (n : Str) (ps : List PyData) : (hkS T0 (R0 40) fGet.scope (getρ n ps) (stAt fGet.body 2)).or (ex1 (R0 40) [] fGet.scope (exs (R0 40) [] fGet.scope (hkS T0) 9) (getρ n ps) (stAt fGet.body 2)) = some (.ret .none, freeze (getρ n ps)) := by kernel_rfl
theorem get_endd (n : Str) (ps : List PyData) : PL.map (fun d => (hkS T0 (R0 40) fGet.scope (getρd n ps d) (stAt fGet.body 2)).or (ex1 (R0 40) [] fGet.scope (exs (R0 40) [] fGet.scope (hkS T0) 9) (getρd n ps d) (stAt fGet.body 2))) = PL.map fun d => some (.ret .none, freeze (getρd n ps d)) := by kernel_rfl
theorem getρd_sets {n : Str} {ps : List PyData} {ρ : Rho} {d : PyData} (hd : d ∈ PL) (hρ : ρ = getρ n ps ∨ ∃ d0 ∈ PL, ρ = getρd n ps d0) : ρ.sets (initB d) = getρd n ps d := by
  obtain ⟨m, _, hm⟩ := List.mem_flatMap.mp hd
  obtain ⟨u, _, rfl⟩ := List.mem_map.mp hm
  rcases hρ with rfl | ⟨d0, hd0, rfl⟩
  · rfl
  · obtain ⟨m, _, hm⟩ := List.mem_flatMap.mp hd0
    obtain ⟨u, _, rfl⟩ := List.mem_map.mp hm
    rfl
theorem get_loop {n : Str} (hn : n ∈ NL) (all : List PyData) : ∀ (ps : List PyData), (∀ d ∈ ps, d ∈ PL) → ∀ ρ, (ρ = getρ n all ∨ ∃ d0 ∈ PL, ρ = getρd n all d0) →
    exL (R0 40) [] fGet.scope (hkS T0) (exs (R0 40) [] fGet.scope (hkS T0) 9) [] ρ = some (.next, ρ) ∧ ∃ ρ2, (forL fGet.scope (exs (R0 40) [] fGet.scope (hkS T0) 9 getFor.2) getFor.1 ps ρ = some (.ret (getP n ps), ρ2)) ∨
      (getP n ps = .none ∧ forL fGet.scope (exs (R0 40) [] fGet.scope (hkS T0) 9 getFor.2) getFor.1 ps ρ = some (.next, ρ2) ∧ (ρ2 = getρ n all ∨ ∃ d0 ∈ PL, ρ2 = getρd n all d0))
  | [], _, ρ, hρ => ⟨rfl, ρ, .inr ⟨rfl, rfl, hρ⟩⟩
  | d :: ps, hd, ρ, hρ => by
    refine ⟨rfl, ?_⟩
    have hdP := hd d List.mem_cons_self
    have ht := of_map_eq (of_map_eq (get_turn all) n hn) d hdP
    rw [← getρd_sets hdP hρ] at ht
    unfold getP
    by_cases c : (lowK d == Txt.lower n) = true
    · rw [if_pos c] at ht ⊢
      exact ⟨_, .inl (forL_ret (of_map_eq get_bind _ hdP) (List.all_eq_true.mp get_own _ hdP) ht)⟩
    · rw [if_neg c] at ht ⊢
      rw [forL_next (of_map_eq get_bind _ hdP) (List.all_eq_true.mp get_own _ hdP) ht, getρd_sets hdP hρ]
      exact (get_loop hn all ps (fun d' h' => hd d' (List.mem_cons_of_mem _ h')) _ (.inr ⟨d, hdP, rfl⟩)).2
theorem get_run {n : Str} (hn : n ∈ NL) {ps : List PyData} (h : okPs ps = true) : (runM (R0 40) (hkS T0) [] 10 ["name"] ["default"] fGet.body fGet.scope (.slf ps) [.str n]).map (·.1) = some (getP n ps) := by
  have e : runM (R0 40) (hkS T0) [] 10 ["name"] ["default"] fGet.body fGet.scope (.slf ps) [.str n] = outOf fGet.scope (exs (R0 40) [] fGet.scope (hkS T0) 10 fGet.body (methRho (.slf ps) ["name"] ["default"] [.str n])) := if_pos rfl
  rw [e]
  show (outOf _ (exL (R0 40) [] fGet.scope (hkS T0) (exs (R0 40) [] fGet.scope (hkS T0) 9) fGet.body _)).map _ = _
  rw [get_body, exL_next (of_map_eq (get_s0 ps) n hn)]
  obtain ⟨_, ρ2, h2 | ⟨h0, h2, h3⟩⟩ := get_loop hn ps ps (okPs_PL h) _ (.inl rfl)
  · rw [exL_ret ((get_s1 n ps).trans h2)]
    rfl
  · rw [exL_next ((get_s1 n ps).trans h2), h0]
    rcases h3 with rfl | ⟨d0, hd0, rfl⟩
    · rw [exL_ret (get_end n ps)]; rfl
    · rw [exL_ret (of_map_eq (get_endd n ps) d0 hd0)]; rfl
theorem getP_PL {n : Str} : ∀ {ps : List PyData}, (∀ d ∈ ps, d ∈ PL) → getP n ps = .none ∨ ∃ v ∈ VL, getP n ps = .str v
  | [], _ => .inl rfl
  | d :: ps, h => by
    unfold getP
    by_cases c : (lowK d == Txt.lower n) = true
    · rw [if_pos c]
      obtain ⟨m, _, hm⟩ := List.mem_flatMap.mp (h d List.mem_cons_self)
      obtain ⟨u, hu, rfl⟩ := List.mem_map.mp hm
      exact .inr ⟨u, hu, rfl⟩
    · rw [if_neg c]
      exact getP_PL fun d' h' => h d' (List.mem_cons_of_mem _ h')

/-! items, the tables behind it -/
noncomputable abbrev fItems := methFn pw "items"
theorem items_body : ∃ p1 p2 p3 p4 p5, fItems.body = [.Return (some (.Subscript (.Attribute (.Name "self" p1) "_headers" p2) (.Slice none none none p3) p4)) p5] := ⟨_, _, _, _, _, rfl⟩
noncomputable def rd1 (m : Str) (ps : List PyData) (args : List PyData) : Option PyData := match args with
  | [] => if (m == ("items" : Str)) && okPs ps then some (.list ps) else none
  | a :: as => if as.isEmpty && (m == ("get" : Str)) && okPs ps then (strOfD a).bind fun n => if NL.contains n then some (getP n ps) else none else none
theorem rd1_get {n : Str} (hn : n ∈ NL) {ps : List PyData} (h : okPs ps = true) : rd1 "get" ps [.str n] = some (getP n ps) := by
  show (if (true && (("get" : Str) == "get") && okPs ps) = true then _ else _) = _
  rw [h, if_pos (by rfl)]
  show (if NL.contains n = true then _ else _) = _
  rw [if_pos (List.contains_iff_mem.mpr hn)]
/-- del table[n] -/
noncomputable def wr1 (m : Str) (ps : List PyData) (args : List PyData) : Option (List PyData × PyData) := match args with
  | [] => none
  | a :: as => if as.isEmpty && (m == ("__delitem__" : Str)) && okPs ps then (strOfD a).bind fun n => if NL.contains n then some (delP n ps, .none) else none else none
theorem wr1_del {n : Str} (hn : n ∈ NL) {ps : List PyData} (h : okPs ps = true) : wr1 "__delitem__" ps [.str n] = some (delP n ps, .none) := by
  show (if (true && (("__delitem__" : Str) == "__delitem__") && okPs ps) = true then _ else _) = _
  rw [h, if_pos (by rfl)]
  show (if NL.contains n = true then _ else _) = _
  rw [if_pos (List.contains_iff_mem.mpr hn)]
noncomputable def T1 : HT := ⟨rd1, wr1, true⟩
noncomputable abbrev R1 (n : Nat) := ev ⟨noFnT, hkE T1⟩ noSrt n

/-! setdefault -/
noncomputable abbrev fDef := methFn pw "setdefault"
theorem sd_body : fDef.body = [stAt fDef.body 0, stAt fDef.body 1] := by kernel_rfl
noncomputable abbrev sdρ (n v : Str) (ps : List PyData) : Rho := methRho (.hdr ps) ["name", "value"] [] [.str n, .str v]
theorem sd_s0 (ps : List PyData) (n v : Str) : (hkS T1 (R1 40) fDef.scope (sdρ n v ps) (stAt fDef.body 0)).or (ex1 (R1 40) [] fDef.scope (exs (R1 40) [] fDef.scope (hkS T1) 9) (sdρ n v ps) (stAt fDef.body 0)) = ((rd1 "get" ps [.str n]).or none).bind fun d => some (.next, (sdρ n v ps).set "result" (.val d)) := by kernel_rfl
noncomputable abbrev sdρ' (n v : Str) (ps : List PyData) (d : PyData) : Rho := (sdρ n v ps).set "result" (.val d)
theorem sd_if (ps : List PyData) (n v : Str) : (hkS T1 (R1 40) fDef.scope (sdρ' n v ps .none) (stAt fDef.body 1)).or (ex1 (R1 40) [] fDef.scope (exs (R1 40) [] fDef.scope (hkS T1) 9) (sdρ' n v ps .none) (stAt fDef.body 1)) = exs (R1 40) [] fDef.scope (hkS T1) 9 (thenOf (stAt fDef.body 1)) (sdρ' n v ps .none) := by kernel_rfl
theorem sd_else (ps : List PyData) (n v u : Str) : (hkS T1 (R1 40) fDef.scope (sdρ' n v ps (.str u)) (stAt fDef.body 1)).or (ex1 (R1 40) [] fDef.scope (exs (R1 40) [] fDef.scope (hkS T1) 9) (sdρ' n v ps (.str u)) (stAt fDef.body 1)) = some (.ret (.str u), freeze (sdρ' n v ps (.str u))) := by kernel_rfl
theorem sd_then : thenOf (stAt fDef.body 1) = [stAt (thenOf (stAt fDef.body 1)) 0, stAt (thenOf (stAt fDef.body 1)) 1] := by kernel_rfl
theorem sd_app (ps : List PyData) : NL.map (fun n => VL.map fun v => hkS T1 (R1 40) fDef.scope (sdρ' n v ps .none) (stAt (thenOf (stAt fDef.body 1)) 0)) = NL.map fun n => VL.map fun v => if ps.length < top then some (.next, (sdρ' n v ps .none).set "self" (.hdr (ps ++ [pr n v]))) else none := by kernel_rfl
theorem sd_ret (ps q : List PyData) (n v : Str) : (hkS T1 (R1 40) fDef.scope ((sdρ' n v ps .none).set "self" (.hdr q)) (stAt (thenOf (stAt fDef.body 1)) 1)).or (ex1 (R1 40) [] fDef.scope (exs (R1 40) [] fDef.scope (hkS T1) 8) ((sdρ' n v ps .none).set "self" (.hdr q)) (stAt (thenOf (stAt fDef.body 1)) 1)) = some (.ret (.str v), freeze ((sdρ' n v ps .none).set "self" (.hdr q))) := by kernel_rfl
/-- what setdefault leaves and gives -/
noncomputable def sdP (n v : Str) (ps : List PyData) : List PyData × PyData := match getP n ps with
  | .str u => (ps, .str u)
  | _ => (ps ++ [pr n v], .str v)
theorem sd_run {n v : Str} (hn : n ∈ NL) (hv : v ∈ VL) {ps : List PyData} (h : okPs ps = true) : runM (R1 40) (hkS T1) [] 10 ["name", "value"] [] fDef.body fDef.scope (.hdr ps) [.str n, .str v] = some ((sdP n v ps).2, some (sdP n v ps).1) := by
  refine (if_pos rfl).trans ?_
  show outOf _ (exL (R1 40) [] fDef.scope (hkS T1) (exs (R1 40) [] fDef.scope (hkS T1) 9) fDef.body _) = _
  have h1 := sd_s0 ps n v
  rw [rd1_get hn h] at h1
  rw [sd_body, exL_next h1]
  unfold sdP
  rcases getP_PL (n := n) (okPs_PL h) with e | ⟨u, _, e⟩
  · rw [e]
    have h2 : exs (R1 40) [] fDef.scope (hkS T1) 9 (thenOf (stAt fDef.body 1)) (sdρ' n v ps .none) = some (.ret (.str v), freeze ((sdρ' n v ps .none).set "self" (.hdr (ps ++ [pr n v])))) := by
      show exL (R1 40) [] fDef.scope (hkS T1) (exs (R1 40) [] fDef.scope (hkS T1) 8) (thenOf (stAt fDef.body 1)) _ = _
      have h3 := of_map_eq (of_map_eq (sd_app ps) n hn) v hv
      rw [if_pos (by have := okPs_len h; unfold top; omega)] at h3
      rw [sd_then, exL_next (by rw [h3]; rfl), exL_ret (sd_ret ps _ n v)]
    rw [exL_ret ((sd_if ps n v).trans h2)]
    rfl
  · rw [e, exL_ret (sd_else ps n v u)]
    rfl

/-! __setitem__ -/
noncomputable abbrev fSet := methFn pw "__setitem__"
theorem set_body : fSet.body = [stAt fSet.body 0, stAt fSet.body 1] := by kernel_rfl
noncomputable abbrev setρ (n v : Str) (ps : List PyData) : Rho := methRho (.hdr ps) ["name", "val"] [] [.str n, .str v]
theorem set_s1 (ps : List PyData) (n v : Str) : hkS T1 (R1 40) fSet.scope (setρ n v ps) (stAt fSet.body 0) = (wr1 "__delitem__" ps [.str n]).bind fun q => some (.next, (setρ n v ps).set "self" (.hdr q.1)) := by kernel_rfl
theorem set_s2 (ps : List PyData) (q : List PyData) : NL.map (fun n => VL.map fun v => hkS T1 (R1 40) fSet.scope ((setρ n v ps).set "self" (.hdr q)) (stAt fSet.body 1)) = NL.map fun n => VL.map fun v => if q.length < top then some (.next, ((setρ n v ps).set "self" (.hdr q)).set "self" (.hdr (q ++ [pr n v]))) else none := by kernel_rfl
theorem set_run {n v : Str} (hn : n ∈ NL) (hv : v ∈ VL) {ps : List PyData} (h : okPs ps = true) : runM (R1 40) (hkS T1) [] 10 ["name", "val"] [] fSet.body fSet.scope (.hdr ps) [.str n, .str v] = some (.none, some (delP n ps ++ [pr n v])) := by
  refine (if_pos rfl).trans ?_
  show outOf _ (exL (R1 40) [] fSet.scope (hkS T1) (exs (R1 40) [] fSet.scope (hkS T1) 9) fSet.body _) = _
  have hp := okPs_len (delP_ok hn h)
  have h1 := set_s1 ps n v
  rw [wr1_del hn h] at h1
  rw [set_body, exL_next (by rw [h1]; rfl)]
  have h2 := of_map_eq (of_map_eq (set_s2 ps (delP n ps)) n hn) v hv
  rw [if_pos (by unfold top; omega)] at h2
  rw [exL_next (by rw [h2]; rfl)]
  rfl

/-! __init__'s loop -/
noncomputable abbrev fInit := methFn pw "__init__"
noncomputable abbrev initLoop := stAt (thenOf (stAt fInit.body 3)) 0
noncomputable def initρ (ps : List PyData) : Rho := [("headers", .val (.list ps)), ("self", .slf ps)]
noncomputable def initρd (ps : List PyData) : PyData → Rho
  | .tuple [.str n, .str v] => ("v", .val (.str v)) :: ("k", .val (.str n)) :: initρ ps
  | _ => initρ ps
theorem init_body (ps : List PyData) : PL.map (fun d => exs (R0 40) [] fInit.scope (hkS T0) 9 (forOf initLoop).2 (initρd ps d)) = PL.map fun d => some (.next, initρd ps d) := by kernel_rfl
theorem init_bind : PL.map (fun d => bindD (forOf initLoop).1 d) = PL.map fun d => some (initB d) := by kernel_rfl
theorem init_own : PL.all (fun d => (initB d).all fun p => own1 fInit.scope p.1) = true := by decide +kernel
theorem init_for (ps : List PyData) : ex1 (R0 40) [] fInit.scope (exs (R0 40) [] fInit.scope (hkS T0) 9) (initρ ps) initLoop = forL fInit.scope (exs (R0 40) [] fInit.scope (hkS T0) 9 (forOf initLoop).2) (forOf initLoop).1 ps (initρ ps) := by kernel_rfl
theorem init_run {ps : List PyData} (h : okPs ps = true) : noLs ps = true ∧ ∃ ρ2, exs (R0 40) [] fInit.scope (hkS T0) 10 [initLoop] [("headers", .val (.list ps)), ("self", .slf ps)] = some (.next, ρ2) := by
  refine ⟨okPs_noL h, ?_⟩
  obtain ⟨ρ2, h2, _⟩ := forL_inv (r := R0 40) (sc := fInit.scope) (body := exs (R0 40) [] fInit.scope (hkS T0) 9 (forOf initLoop).2) (tg := (forOf initLoop).1) (fun ρ => ρ = initρ ps ∨ ∃ d ∈ PL, ρ = initρd ps d) ps (initρ ps) (fun d hd ρ hρ => by
    have hd' := okPs_PL h d hd
    obtain ⟨n, hn, v, hv, rfl⟩ := inPL_mem (List.all_eq_true.mp (Bool.and_eq_true_iff.mp h).1 d hd)
    refine ⟨_, initρd ps (pr n v), of_map_eq init_bind _ hd', List.all_eq_true.mp init_own _ hd', ?_, .inr ⟨_, hd', rfl⟩⟩
    have hs : ρ.sets (initB (pr n v)) = initρd ps (pr n v) := by
      rcases hρ with rfl | ⟨d0, hd0, rfl⟩
      · rfl
      · obtain ⟨m, _, hm⟩ := List.mem_flatMap.mp hd0
        obtain ⟨u, _, rfl⟩ := List.mem_map.mp hm
        rfl
    rw [hs]
    exact of_map_eq (init_body ps) _ hd') (.inl rfl)
  refine ⟨ρ2, ?_⟩
  show exL (R0 40) [] fInit.scope (hkS T0) (exs (R0 40) [] fInit.scope (hkS T0) 9) [initLoop] (initρ ps) = _
  have hs : hkS T0 (R0 40) fInit.scope (initρ ps) initLoop = none := by kernel_rfl
  rw [exL_next (by rw [hs, init_for]; exact h2)]
  rfl

end Mine

namespace Mine
open PySem PySem.Calls PySem.Spec PyProof.Rows PySem.W PySem.SeqAt

/-! add_header -/
noncomputable abbrev fAdd := methFn pw "add_header"
noncomputable def HA : EHook := fun r sc ρ e => (hkE T0 r sc ρ e).or (hkJn r sc ρ e)
noncomputable def SA : SHook := fun r sc ρ st => (hkS T0 r sc ρ st).or (hkPar r sc ρ st)
noncomputable abbrev RA (n : Nat) := ev ⟨noFnT, HA⟩ noSrt n
noncomputable abbrev XA (n : Nat) := exs (RA 40) ["parts"] fAdd.scope SA n
noncomputable abbrev SAt (i : Nat) (ρ : Rho) := (SA (RA 40) fAdd.scope ρ (stAt fAdd.body i)).or (ex1 (RA 40) ["parts"] fAdd.scope (XA 9) ρ (stAt fAdd.body i))
theorem add_body : fAdd.body = [stAt fAdd.body 0, stAt fAdd.body 1, stAt fAdd.body 2, stAt fAdd.body 3] := by kernel_rfl
noncomputable def add0 (n v : Str) (ps : List PyData) : Rho := objRho "self" ["_name", "_value"] ps [.str n, .str v] [] ["_params"]
noncomputable def add1 (n v : Str) (ps : List PyData) : Rho := ("parts", .own []) :: add0 n v ps
noncomputable def add2 (n v : Str) (ps : List PyData) : Rho := [("parts", .own [.str v]), ("_value", .val (.str v)), ("self", .hdr ps), ("_name", .val (.str n)), ("_params", .kwd)]
theorem add_s0 (ps : List PyData) (n v : Str) : SAt 0 (add0 n v ps) = some (.next, add1 n v ps) := by kernel_rfl
theorem add_s1 (ps : List PyData) (n : Str) : VL.map (fun v => SAt 1 (add1 n v ps)) = VL.map fun v => some (.next, add2 n v ps) := by kernel_rfl
theorem add_s2 (ps : List PyData) (n v : Str) : SAt 2 (add2 n v ps) = some (.next, add2 n v ps) := by kernel_rfl
theorem add_s3 (ps : List PyData) : NL.map (fun n => VL.map fun v => hkS T0 (RA 40) fAdd.scope (add2 n v ps) (stAt fAdd.body 3)) = NL.map fun n => VL.map fun v => (if ps.length < top then some (.next, (add2 n v ps).set "self" (.hdr (ps ++ [pr n v]))) else none) := by kernel_rfl
theorem add_run {n v : Str} (hn : n ∈ NL) (hv : v ∈ VL) {ps : List PyData} (h : okPs ps = true) : runO (XA 10 fAdd.body) "self" ["_name", "_value"] fAdd.scope ps [.str n, .str v] [] ["_params"] = some (.none, some (ps ++ [pr n v])) := by
  refine (if_pos rfl).trans ?_
  show outO _ _ (exL (RA 40) ["parts"] fAdd.scope SA (XA 9) fAdd.body (add0 n v ps)) = _
  have h3 := of_map_eq (of_map_eq (add_s3 ps) n hn) v hv
  rw [if_pos (by have := okPs_len h; unfold top; omega)] at h3
  rw [add_body, exL_next (add_s0 ps n v), exL_next (of_map_eq (add_s1 ps n) v hv), exL_next (add_s2 ps n v), exL_next (by unfold SA; rw [h3]; rfl)]
  rfl
/-- which calls change a table -/
noncomputable def addP (n v : Str) (ps : List PyData) : List PyData := ps ++ [pr n v]
noncomputable def wr2 (m : Str) (ps : List PyData) (args : List PyData) : Option (List PyData × PyData) := match args with
  | [] => none
  | a :: as => (strOfD a).bind fun n => if NL.contains n && okPs ps && decide (ps.length < 12) then (match as with
    | [] => if m == ("__delitem__" : Str) then some (delP n ps, .none) else none
    | b :: bs => (strOfD b).bind fun v => if bs.isEmpty && VL.contains v then
        (if m == ("__setitem__" : Str) then some (delP n ps ++ [pr n v], .none)
        else if m == ("setdefault" : Str) then some (sdP n v ps)
        else if m == ("add_header" : Str) then some (ps ++ [pr n v], .none) else none) else none) else none
noncomputable def T2 : HT := ⟨rd1, wr2, true⟩
end Mine

namespace Mine
open PySem PySem.Calls PySem.Spec PyProof.Rows PySem.W PySem.SeqAt

/-- what the top gives -/
structure TopH (mg mb : Str → Option Value) (K : Frag) (H0 : Heap) (Ca : Addr) : Prop where
  g1 : Ground1 mg mb H0
  cls : ClsAt K H0 Ca
  field : ∃ cd, clsIn K Ca = some cd ∧ cd.hasDict = true
  nofield : findIn K (.ref Ca) "_headers" = some none
  conv : ∃ f, MethAt K H0 Ca "_convert_string_type" f ∧ ConvAt H0 f
  del : ∃ f, MethAt K H0 Ca "__delitem__" f ∧ MethFn H0 f ["name"] [] fDel.body fDel.scope
  get : ∃ f, MethAt K H0 Ca "get" f ∧ MethFn H0 f ["name"] ["default"] fGet.body fGet.scope
  items : ∃ f, MethAt K H0 Ca "items" f ∧ MethFn H0 f [] [] fItems.body fItems.scope
  sd : ∃ f, MethAt K H0 Ca "setdefault" f ∧ MethFn H0 f ["name", "value"] [] fDef.body fDef.scope
  set : ∃ f, MethAt K H0 Ca "__setitem__" f ∧ MethFn H0 f ["name", "val"] [] fSet.body fSet.scope
  add : ∃ f, MethAt K H0 Ca "add_header" f ∧ ObjFn H0 f "self" ["_name", "_value"] [] ["_params"] fAdd.body fAdd.scope
  init : ∃ f, MakeAt K Ca f ∧ InitFn H0 f fInit.scope initLoop
  keep : keepIn K (.ref Ca) = true
  head : mg ("Headers" : Str) = some (.ref Ca)

section
variable {prog : Program} {w : World} {mg mb : Str → Option Value} {K : Frag} {H0 : Heap} {Ca : Addr}

theorem noRd_ok {k : Nat} : RdOk prog w K H0 Ca k noRd := fun _ _ _ _ e => nomatch e
theorem noWr_ok {k : Nat} : WrOk prog w K H0 Ca k noWr := fun _ _ _ _ _ e => nomatch e
theorem cl0 (t : TopH mg mb K H0 Ca) : ClOk prog w mg mb K H0 Ca 1 T0 := ⟨t.cls, t.g1, noRd_ok, noWr_ok, fun _ => ⟨Nat.le_refl _, t.conv⟩, t.field, t.nofield⟩
theorem ps0 (t : TopH mg mb K H0 Ca) (ok : Addr → Addr → Prop) : SpecOk prog w mg H0 ⟨Ca, ok⟩ ⟨noFnT, hkE T0⟩ 1 := ⟨(fun _ _ _ e => nomatch e), hkE_ok (cl0 t)⟩
theorem sh0 (t : TopH mg mb K H0 Ca) (ok : Addr → Addr → Prop) : StmtOk prog w ⟨Ca, ok⟩ H0 1 (hkS T0) := hkS_ok (cl0 t)

theorem rd1_ok (t : TopH mg mb K H0 Ca) : RdOk prog w K H0 Ca 2 rd1 := by
  intro m ps args d e
  unfold rd1 at e
  split at e
  · split at e
    · rename_i hc
      rw [Bool.and_eq_true, beq_iff_eq] at hc
      obtain ⟨rfl, hps⟩ := hc
      cases e
      obtain ⟨f, M, MF⟩ := t.items
      obtain ⟨p1, p2, p3, p4, p5, hb⟩ := items_body
      rw [hb] at MF
      refine ⟨f, M, fun A s U y a vs vargs rm hst Hy ha rr fr ra => ?_⟩
      have : vargs = [] := List.eq_nil_of_length_eq_zero (by rw [ra.length]; rfl)
      subst this
      exact meth_items (Φ := ⟨noFnT, hkE T0⟩) (fn := noFnT) (cl0 t) MF rm hst Hy ha rr fr (le_top (by have := okPs_len hps; omega))
    · cases e
  · split at e
    · rename_i hc
      simp only [Bool.and_eq_true, beq_iff_eq, List.isEmpty_iff] at hc
      obtain ⟨⟨rfl, rfl⟩, hps⟩ := hc
      replace e := Option.bind_eq_some_iff.mp e
      obtain ⟨n, hn, e⟩ := e
      have := strOfD_eq hn
      subst this
      split at e
      · rename_i hN
        cases e
        have hnl : noL (getP n ps) = true := by
          rcases getP_PL (n := n) (okPs_PL hps) with q | ⟨v, _, q⟩ <;> rw [q] <;> rfl
        obtain ⟨f, M, MF⟩ := t.get
        exact ⟨f, M, fun A s U y a vs vargs rm hst Hy ha rr fr ra => meth_rd (ps0 t) noSrt_ok t.g1.toGround0 (sh0 t) MF (get_run (List.contains_iff_mem.mp hN) hps) hnl rm hst Hy ha rr fr ra⟩
      · cases e
    · cases e
theorem wr1_ok (t : TopH mg mb K H0 Ca) : WrOk prog w K H0 Ca 2 wr1 := by
  intro m ps args ps' d e
  cases args with
  | nil => exact noSome e
  | cons x as =>
    replace e := iteS (show (if as.isEmpty && (m == ("__delitem__" : Str)) && okPs ps then _ else none) = some (ps', d) from e)
    have hc := e.1
    simp only [Bool.and_eq_true, beq_iff_eq, List.isEmpty_iff] at hc
    obtain ⟨n, hn, e2⟩ := Option.bind_eq_some_iff.mp e.2
    have := strOfD_eq hn
    have hN := List.contains_iff_mem.mp (iteS e2).1
    cases (iteS e2).2
    obtain ⟨⟨h1, h2⟩, h3⟩ := hc
    subst this h1 h2
    obtain ⟨f, M, MF⟩ := t.del
    exact ⟨f, M, fun A s P y a vs vargs n0 rm hst Hy ha0 ha rr hP fr ra => meth_wr0 (ps0 t) noSrt_ok t.g1.toGround0 (sh0 t) MF (del_run hN h3) rm hst Hy ha0 ha rr hP fr ra⟩
theorem cl1 (t : TopH mg mb K H0 Ca) : ClOk prog w mg mb K H0 Ca 2 T1 := ⟨t.cls, t.g1, rd1_ok t, wr1_ok t, fun _ => ⟨by omega, t.conv⟩, t.field, t.nofield⟩
theorem ps1 (t : TopH mg mb K H0 Ca) (ok : Addr → Addr → Prop) : SpecOk prog w mg H0 ⟨Ca, ok⟩ ⟨noFnT, hkE T1⟩ 2 := ⟨(fun _ _ _ e => nomatch e), hkE_ok (cl1 t)⟩
theorem psA (t : TopH mg mb K H0 Ca) (ok : Addr → Addr → Prop) : SpecOk prog w mg H0 ⟨Ca, ok⟩ ⟨noFnT, HA⟩ 1 := ⟨(fun _ _ _ e => nomatch e), HookOk.or (hkE_ok (cl0 t)) hkJn_ok⟩
theorem shA (t : TopH mg mb K H0 Ca) (ok : Addr → Addr → Prop) : StmtOk prog w ⟨Ca, ok⟩ H0 1 SA := StmtOk.or (hkS_ok (cl0 t)) hkPar_ok
theorem wr2_ok (t : TopH mg mb K H0 Ca) : WrOk prog w K H0 Ca 3 wr2 := by
  intro m ps args ps' d e
  cases args with
  | nil => exact noSome e
  | cons x as =>
    obtain ⟨n, hn, e1⟩ := Option.bind_eq_some_iff.mp e
    have hs := strOfD_eq hn
    have hc := (iteS e1).1
    have e2 := (iteS e1).2
    rw [Bool.and_eq_true, Bool.and_eq_true] at hc
    have hN := List.contains_iff_mem.mp hc.1.1
    subst hs
    cases as with
    | nil =>
      have hm := beq_iff_eq.mp (iteS e2).1
      cases (iteS e2).2
      subst hm
      obtain ⟨f, M, MF⟩ := t.del
      exact ⟨f, M, fun A s P y a vs vargs n0 rm hst Hy ha0 ha rr hP fr ra => meth_wr0 (ps0 t) noSrt_ok t.g1.toGround0 (sh0 t) MF (del_run hN hc.1.2) (rm.mono (by omega)) hst Hy ha0 ha rr hP fr ra⟩
    | cons b bs =>
      obtain ⟨v, hv, e3⟩ := Option.bind_eq_some_iff.mp e2
      have hb := (iteS e3).1
      have e4 := (iteS e3).2
      have hs := strOfD_eq hv
      simp only [Bool.and_eq_true, List.isEmpty_iff] at hb
      have hV := List.contains_iff_mem.mp hb.2
      have hbs := hb.1
      subst hs hbs
      by_cases c1 : (m == ("__setitem__" : Str)) = true
      · rw [if_pos c1] at e4
        cases e4
        have hm := beq_iff_eq.mp c1
        subst hm
        obtain ⟨f, M, MF⟩ := t.set
        exact ⟨f, M, fun A s P y a vs vargs n0 rm hst Hy ha0 ha rr hP fr ra => meth_wr0 (ps1 t) noSrt_ok t.g1.toGround0 (fun ok => hkS_ok (cl1 t)) MF (set_run hN hV hc.1.2) rm hst Hy ha0 ha rr hP fr ra⟩
      · rw [if_neg c1] at e4
        by_cases c2 : (m == ("setdefault" : Str)) = true
        · rw [if_pos c2] at e4
          have hm := beq_iff_eq.mp c2
          subst hm
          obtain ⟨f, M, MF⟩ := t.sd
          have hr := sd_run hN hV hc.1.2
          have e' : sdP n v ps = (ps', d) := Option.some.inj e4
          rw [e'] at hr
          exact ⟨f, M, fun A s P y a vs vargs n0 rm hst Hy ha0 ha rr hP fr ra => meth_wr0 (ps1 t) noSrt_ok t.g1.toGround0 (fun ok => hkS_ok (cl1 t)) MF hr rm hst Hy ha0 ha rr hP fr ra⟩
        · rw [if_neg c2] at e4
          have hm := beq_iff_eq.mp (iteS e4).1
          cases (iteS e4).2
          subst hm
          obtain ⟨f, M, MF⟩ := t.add
          exact ⟨f, M, fun A s P y a vs vargs n0 rm hst Hy ha0 ha rr hP fr ra => obj_wr (k := 1) t.g1.toGround0 MF (fun ok A P env es rm => exs_blk (psA t ok) noSrt_ok t.g1.toGround0 (shA t ok) A P env es rm) (add_run hN hV hc.1.2) (rm.mono (by omega)) hst Hy ha0 ha rr hP fr ra⟩
theorem cl2 (t : TopH mg mb K H0 Ca) : ClOk prog w mg mb K H0 Ca 3 T2 := ⟨t.cls, t.g1, (rd1_ok t).mono (by omega), wr2_ok t, fun _ => ⟨by omega, t.conv⟩, t.field, t.nofield⟩
theorem new2 (t : TopH mg mb K H0 Ca) : NewOk prog w H0 Ca 3 okPs := by
  obtain ⟨f, MA, IF⟩ := t.init
  exact new_ok (ps0 t _) noSrt_ok t.g1 (sh0 t _) t.cls MA IF fun ps h => init_run h

/-! the hooks of the law's own functions -/
noncomputable def HE : EHook := hkE T2
noncomputable def HS : SHook := fun r sc ρ st => (hkS T2 r sc ρ st).or (hkNew "Headers" okPs r sc ρ st)
noncomputable abbrev C1 (Ca : Addr) : Cls := ⟨Ca, fun _ _ => True⟩
theorem heOk (t : TopH mg mb K H0 Ca) {fn : Str → List PyData → Option PyData} : HookOk prog w H0 (C1 Ca) ⟨fn, HE⟩ 3 := hkE_ok (cl2 t)
theorem hsOk (t : TopH mg mb K H0 Ca) : StmtOk prog w (C1 Ca) H0 3 HS := StmtOk.or (hkS_ok (cl2 t)) (hkNew_ok t.g1.toGround0 t.cls t.keep t.head (new2 t))
end
end Mine

namespace Mine
open PySem PySem.Calls PySem.Spec PyProof.Rows PySem.W PySem.SeqAt

/-! _law_call -/
noncomputable abbrev R3 (n : Nat) := ev ⟨noFnT, HE⟩ noSrt n
noncomputable abbrev fCa := topFn pw "_law_call"
noncomputable def callD (k : Nat) (n v : Str) : PyData := .tuple [.int k, .str n, .str v]
noncomputable abbrev XC (n : Nat) := exs (R3 40) [] fCa.scope (hkS T2) n
noncomputable abbrev SC (n : Nat) (st : Stmt) (ρ : Rho) := (hkS T2 (R3 40) fCa.scope ρ st).or (ex1 (R3 40) [] fCa.scope (XC n) ρ st)
noncomputable def elseOf : Stmt → List Stmt
  | .If _ _ b _ => b
  | _ => []
noncomputable abbrev ca1 := stAt fCa.body 1
noncomputable abbrev ca2 := stAt (elseOf ca1) 0
noncomputable abbrev ca3 := stAt (elseOf ca2) 0
noncomputable def caρ (k : Nat) (n v : Str) (ps : List PyData) : Rho := [("value", .val (.str v)), ("name", .val (.str n)), ("kind", .val (.int k)), ("table", .hdr ps), ("call", .val (callD k n v))]
theorem ca_body : fCa.body = [stAt fCa.body 0, ca1] := by kernel_rfl
theorem ca_b0 : thenOf ca1 = [stAt (thenOf ca1) 0] := by kernel_rfl
theorem ca_b1 : thenOf ca2 = [stAt (thenOf ca2) 0] := by kernel_rfl
theorem ca_b2 : thenOf ca3 = [stAt (thenOf ca3) 0] := by kernel_rfl
theorem ca_b3 : elseOf ca3 = [stAt (elseOf ca3) 0] := by kernel_rfl
theorem ca_s0 (k : Nat) (n v : Str) (ps : List PyData) : SC 9 (stAt fCa.body 0) (objRho "table" ["call"] ps [callD k n v] [] []) = some (.next, caρ k n v ps) := by kernel_rfl
theorem ca_e1 : elseOf ca1 = [ca2] := by kernel_rfl
theorem ca_e2 : elseOf ca2 = [ca3] := by kernel_rfl
theorem ca_i0 (n v : Str) (ps : List PyData) : SC 9 ca1 (caρ 0 n v ps) = XC 9 (thenOf ca1) (caρ 0 n v ps) := by kernel_rfl
theorem ca_i1 (n v : Str) (ps : List PyData) : [1, 2, 3].map (fun k => SC 9 ca1 (caρ k n v ps)) = [1, 2, 3].map fun k => XC 9 (elseOf ca1) (caρ k n v ps) := by kernel_rfl
theorem ca_j1 (n v : Str) (ps : List PyData) : SC 8 ca2 (caρ 1 n v ps) = XC 8 (thenOf ca2) (caρ 1 n v ps) := by kernel_rfl
theorem ca_j2 (n v : Str) (ps : List PyData) : [2, 3].map (fun k => SC 8 ca2 (caρ k n v ps)) = [2, 3].map fun k => XC 8 (elseOf ca2) (caρ k n v ps) := by kernel_rfl
theorem ca_k2 (n v : Str) (ps : List PyData) : SC 7 ca3 (caρ 2 n v ps) = XC 7 (thenOf ca3) (caρ 2 n v ps) := by kernel_rfl
theorem ca_k3 (n v : Str) (ps : List PyData) : SC 7 ca3 (caρ 3 n v ps) = XC 7 (elseOf ca3) (caρ 3 n v ps) := by kernel_rfl
theorem ca_l0 (n v : Str) (ps : List PyData) : hkS T2 (R3 40) fCa.scope (caρ 0 n v ps) (stAt (thenOf ca1) 0) = (wr2 "__setitem__" ps [.str n, .str v]).bind fun q => some (.next, (caρ 0 n v ps).set "table" (.hdr q.1)) := by kernel_rfl
theorem ca_l1 (n v : Str) (ps : List PyData) : hkS T2 (R3 40) fCa.scope (caρ 1 n v ps) (stAt (thenOf ca2) 0) = (wr2 "__delitem__" ps [.str n]).bind fun q => some (.next, (caρ 1 n v ps).set "table" (.hdr q.1)) := by kernel_rfl
theorem ca_l2 (n v : Str) (ps : List PyData) : hkS T2 (R3 40) fCa.scope (caρ 2 n v ps) (stAt (thenOf ca3) 0) = (wr2 "add_header" ps [.str n, .str v]).bind fun q => if scalarD q.2 then some (.next, (caρ 2 n v ps).set "table" (.hdr q.1)) else none := by kernel_rfl
theorem ca_l3 (n v : Str) (ps : List PyData) : hkS T2 (R3 40) fCa.scope (caρ 3 n v ps) (stAt (elseOf ca3) 0) = (wr2 "setdefault" ps [.str n, .str v]).bind fun q => if scalarD q.2 then some (.next, (caρ 3 n v ps).set "table" (.hdr q.1)) else none := by kernel_rfl
/-- a call's effect -/
noncomputable def callP (k : Nat) (n v : Str) (ps : List PyData) : List PyData :=
  if k = 0 then delP n ps ++ [pr n v] else if k = 1 then delP n ps else if k = 2 then ps ++ [pr n v] else (sdP n v ps).1
theorem XC_one {n : Nat} {st : Stmt} {ρ ρ1 : Rho} (h : SC n st ρ = some (.next, ρ1)) : XC (n + 1) [st] ρ = some (.next, ρ1) := by
  show exL _ _ _ _ _ [st] ρ = _
  rw [exL_next h]; rfl
theorem SC_hk {n : Nat} {st : Stmt} {ρ : Rho} {q : Fl × Rho} (h : hkS T2 (R3 40) fCa.scope ρ st = some q) : SC n st ρ = some q := by
  show (hkS _ _ _ _ _).or _ = _
  rw [h]; rfl
theorem sd_scalar {n v : Str} {ps : List PyData} : (∀ d ∈ ps, d ∈ PL) → scalarD (sdP n v ps).2 = true := fun h => by
  unfold sdP
  rcases getP_PL (n := n) h with e | ⟨u, _, e⟩ <;> rw [e] <;> rfl
theorem wr2_go {n v m : Str} (hn : n ∈ NL) (hv : v ∈ VL) {ps : List PyData} (h : okPs ps = true) (hl : ps.length < 12) : wr2 m ps [.str n, .str v] = (if m == ("__setitem__" : Str) then some (delP n ps ++ [pr n v], .none)
        else if m == ("setdefault" : Str) then some (sdP n v ps)
        else if m == ("add_header" : Str) then some (ps ++ [pr n v], .none) else none) := by
  show (if NL.contains n && okPs ps && decide (ps.length < 12) then _ else _) = _
  rw [if_pos (by rw [h, List.contains_iff_mem.mpr hn, decide_eq_true hl]; rfl)]
  show (if true && VL.contains v then _ else _) = _
  rw [if_pos (by rw [List.contains_iff_mem.mpr hv]; rfl)]
theorem wr2_del {n : Str} (hn : n ∈ NL) {ps : List PyData} (h : okPs ps = true) (hl : ps.length < 12) : wr2 "__delitem__" ps [.str n] = some (delP n ps, .none) := by
  show (if NL.contains n && okPs ps && decide (ps.length < 12) then _ else _) = _
  rw [if_pos (by rw [h, List.contains_iff_mem.mpr hn, decide_eq_true hl]; rfl)]
  exact if_pos (by rfl)
theorem ca_run {k : Nat} (hk : k < 4) {n v : Str} (hn : n ∈ NL) (hv : v ∈ VL) {ps : List PyData} (h : okPs ps = true) (hl : ps.length < 12) :
    runO (XC 10 fCa.body) "table" ["call"] fCa.scope ps [callD k n v] [] [] = some (.none, some (callP k n v ps)) := by
  refine (if_pos rfl).trans ?_
  have fin : ∀ ps', SC 9 ca1 (caρ k n v ps) = some (.next, (caρ k n v ps).set "table" (.hdr ps')) → outO "table" fCa.scope (XC 10 fCa.body (objRho "table" ["call"] ps [callD k n v] [] [])) = some (.none, some ps') := fun ps' e => by
    show outO _ _ (exL _ _ _ _ _ fCa.body _) = _
    rw [ca_body, exL_next (ca_s0 k n v ps), exL_next e]
    rfl
  refine fin _ ?_
  rcases four hk with rfl | rfl | rfl | rfl
  · skip
    have e := ca_l0 n v ps
    rw [wr2_go hn hv h hl, if_pos (by rfl), Option.bind_some] at e
    rw [ca_i0, ca_b0, XC_one (SC_hk e)]
    rfl
  · skip
    have e := ca_l1 n v ps
    rw [wr2_del hn h hl, Option.bind_some] at e
    rw [of_map_eq (ca_i1 n v ps) 1 (by decide), ca_e1, XC_one ((ca_j1 n v ps).trans (by rw [ca_b1]; exact XC_one (SC_hk e)))]
    rfl
  · skip
    have e := ca_l2 n v ps
    rw [wr2_go hn hv h hl, if_neg (by decide +kernel), if_neg (by decide +kernel), if_pos (by rfl), Option.bind_some] at e
    replace e := e.trans (if_pos rfl)
    have e1 := ca_k2 n v ps
    rw [ca_b2, XC_one (SC_hk e)] at e1
    have e2 := of_map_eq (ca_j2 n v ps) 2 (by decide)
    rw [ca_e2, XC_one e1] at e2
    rw [of_map_eq (ca_i1 n v ps) 2 (by decide), ca_e1, XC_one e2]
    rfl
  · skip
    have e := ca_l3 n v ps
    rw [wr2_go hn hv h hl, if_neg (by decide +kernel), if_pos (by rfl), Option.bind_some, if_pos (sd_scalar (okPs_PL h))] at e
    have e1 := ca_k3 n v ps
    rw [ca_b3, XC_one (SC_hk e)] at e1
    have e2 := of_map_eq (ca_j2 n v ps) 3 (by decide)
    rw [ca_e2, XC_one e1] at e2
    rw [of_map_eq (ca_i1 n v ps) 3 (by decide), ca_e1, XC_one e2]
    rfl
end Mine

namespace Mine
open PySem PySem.Calls PySem.Spec PyProof.Rows PySem.W PySem.SeqAt

/-! _law_picks -/
noncomputable abbrev Tbl := Str → List PyData → Option PyData
noncomputable abbrev Rf (fn : Tbl) (n : Nat) := ev ⟨fn, HE⟩ noSrt n
noncomputable abbrev fPi := topFn pw "_law_picks"
noncomputable abbrev piLoop := stAt fPi.body 1
noncomputable abbrev piF := forOf piLoop
noncomputable abbrev XPi (fn : Tbl) (n : Nat) := exs (Rf fn 40) ["rows"] fPi.scope HS n
noncomputable abbrev SPi (fn : Tbl) (n : Nat) (st : Stmt) (ρ : Rho) := (HS (Rf fn 40) fPi.scope ρ st).or (ex1 (Rf fn 40) ["rows"] fPi.scope (XPi fn n) ρ st)
theorem pi_body : fPi.body = [stAt fPi.body 0, piLoop, stAt fPi.body 2] := by kernel_rfl
theorem pi_f : piF.2 = [stAt piF.2 0] := by kernel_rfl
noncomputable def arg0 : Expr → Expr
  | .Call _ (a :: _) _ _ => a
  | e => e
noncomputable abbrev piLC := lcOf (arg0 (rhsOf (stAt piF.2 0)))
theorem pi_lc : piLC.2.1 = [gAt piLC.2.1] := by kernel_rfl
noncomputable def piρ (R : List PyData) (ds : List PyData) : Rho := [("rows", .own R), ("pairs", .val (.list ds))]
noncomputable def piρk (k : Int) (R : List PyData) (ds : List PyData) : Rho := [("k", .val (.int k)), ("rows", .own R), ("pairs", .val (.list ds))]
noncomputable def piρr (k : Int) (R : List PyData) (ds : List PyData) : Rho := [("rows", .own R), ("k", .val (.int k)), ("pairs", .val (.list ds))]
noncomputable def rangeD : PyData → Option (List PyData)
  | .int k => if decide (0 ≤ k) && decide (k ≤ top) then some ((List.range k.toNat).map fun (i : Nat) => PyData.int (i : Int)) else none
  | _ => none
noncomputable def listOf : PyData → Option (List PyData)
  | .list ds => some ds
  | _ => none
noncomputable def cxρ (k : Int) (ds : List PyData) : Rho := compRho piLC.2.2 (piρk k [] ds)
section
variable (fn : Tbl) (k : Int) (R ds : List PyData)
theorem pi_s0 : SPi fn 9 (stAt fPi.body 0) (rho0 ["pairs"] [.list ds]) = some (.next, piρ [.list []] ds) := by kernel_rfl
theorem pi_s1 : SPi fn 9 piLoop (piρ R ds) = ((lenD (.list ds)).bind rangeD).bind fun items => forL fPi.scope (XPi fn 9 piF.2) piF.1 items (piρ R ds) := by kernel_rfl
theorem pi_s2 : SPi fn 9 (stAt fPi.body 2) (piρ R ds) = some (.ret (.list R), freeze (piρ R ds)) := by kernel_rfl
theorem pi_s2r : SPi fn 9 (stAt fPi.body 2) (piρr k R ds) = some (.ret (.list R), freeze (piρr k R ds)) := by kernel_rfl
theorem pi_turn : SPi fn 8 (stAt piF.2 0) (piρk k R ds) = ((evG (Rf fn 39) piLC.2.2 (relabelS piLC.2.2 fPi.scope) piLC.1 piLC.2.1 (cxρ k ds) (((((cutD (.list ds) none (some k) none).bind fun x => (cutD (.list ds) (some (k + 1)) none none).bind fun y => addD x y).bind fun z => some [z]).bind (fn "_law_picks")).bind listOf)).bind mkList).bind fun d => (listOp "extend" R d).bind fun R' => some (.next, piρr k R' ds) := by kernel_rfl
theorem pi_item (d : List PyData) : evG1 (Rf fn 39) piLC.2.2 (relabelS piLC.2.2 fPi.scope) piLC.1 (gAt piLC.2.1) (cxρ k ds) (.list d) = ((((idxD (.list ds) (.int k)).bind fun x => some [x]).bind mkList).bind fun x => addD x (.list d)).map some := by kernel_rfl
theorem pi_bind (d : PyData) : bindD piF.1 d = some [(("k" : Str), d)] := by kernel_rfl
theorem pi_own (d : PyData) : ([(("k" : Str), d)].all fun p => own1 fPi.scope p.1) = true := by kernel_rfl
end

/-- the rows of picks, by the count of what may be picked -/
noncomputable def pickN : Nat → List PyData → List (List PyData)
  | 0, _ => [[]]
  | m + 1, ds => [] :: (List.range ds.length).flatMap fun k => (pickN m (ds.eraseIdx k)).map fun r => ds.getD k .none :: r
noncomputable def FP : Nat → Tbl
  | 0 => fun _ _ => none
  | m + 1 => fun f args => if f == ("_law_picks" : Str) then runF (Rf (FP m) 40) HS ["rows"] 10 ["pairs"] fPi.body fPi.scope args else none
noncomputable def pc : Nat → Nat
  | 0 => 1
  | m + 1 => 1 + (m + 1) * pc m
theorem flat_len {α β : Type} {f : α → List β} {c : Nat} : ∀ {l : List α}, (∀ a ∈ l, (f a).length ≤ c) → (l.flatMap f).length ≤ l.length * c
  | [], _ => by simp
  | a :: l, h => by
    rw [List.flatMap_cons, List.length_append, List.length_cons, Nat.succ_mul]
    have h1 := h a List.mem_cons_self
    have h2 := flat_len (f := f) (c := c) (l := l) fun b hb => h b (List.mem_cons_of_mem _ hb)
    omega
theorem pickN_len : ∀ (m : Nat) (ds : List PyData), ds.length ≤ m → (pickN m ds).length ≤ pc m
  | 0, _, _ => Nat.le_refl _
  | m + 1, ds, h => by
    unfold pickN pc
    rw [List.length_cons]
    have := flat_len (f := fun k => (pickN m (ds.eraseIdx k)).map fun r => ds.getD k .none :: r) (c := pc m) (l := List.range ds.length) fun k hk => by
      rw [List.length_map]
      have hk := List.mem_range.mp hk
      exact pickN_len m _ (by rw [List.length_eraseIdx_of_lt hk]; omega)
    rw [List.length_range] at this
    have : ds.length * pc m ≤ (m + 1) * pc m := Nat.mul_le_mul_right _ h
    omega
theorem pickN_row : ∀ (m : Nat) (ds : List PyData), ∀ r ∈ pickN m ds, r.length ≤ m
  | 0, _, r, h => by rw [List.mem_singleton.mp h]; exact Nat.le_refl _
  | m + 1, ds, r, h => by
    unfold pickN at h
    rcases List.mem_cons.mp h with rfl | h
    · exact Nat.zero_le _
    · obtain ⟨k, _, h⟩ := List.mem_flatMap.mp h
      obtain ⟨q, hq, rfl⟩ := List.mem_map.mp h
      have := pickN_row m _ q hq
      rw [List.length_cons]; omega
theorem pc_le : ∀ m, m ≤ 4 → pc m ≤ 65 := by decide
theorem clip_nat (n k : Nat) : clipAt n (k : Int) = min k n := by
  have := clipAt_cast n k
  rw [if_neg (Int.not_lt.mpr (Int.natCast_nonneg k))] at this
  omega
theorem cut_to {ds : List PyData} {k : Nat} (h : ds.length ≤ 1000) (hk : k ≤ ds.length) : cutD (.list ds) none (some (k : Int)) none = some (.list (ds.take k)) := by
  show (if ds.length ≤ top then some (PyData.list (cutL ds none (some (k : Int)))) else none) = _
  rw [if_pos (le_top h)]
  have e : cutL ds none (some (k : Int)) = ds.take k := by
    show (ds.drop 0).take (clipAt ds.length k - 0) = _
    rw [clip_nat, List.drop_zero, Nat.sub_zero, Nat.min_eq_left hk]
  rw [e]
theorem cut_from {ds : List PyData} {k : Nat} (h : ds.length ≤ 1000) (hk : k < ds.length) : cutD (.list ds) (some ((k : Int) + 1)) none none = some (.list (ds.drop (k + 1))) := by
  show (if ds.length ≤ top then some (PyData.list (cutL ds (some ((k : Int) + 1)) none)) else none) = _
  rw [if_pos (le_top h)]
  have e : cutL ds (some ((k : Int) + 1)) none = ds.drop (k + 1) := by
    show (ds.drop (clipAt ds.length ((k : Int) + 1))).take (ds.length - clipAt ds.length ((k : Int) + 1)) = _
    have hc : clipAt ds.length ((k : Int) + 1) = k + 1 := (clip_nat ds.length (k + 1)).trans (Nat.min_eq_left hk)
    rw [hc]
    exact List.take_of_length_le (by rw [List.length_drop]; exact Nat.le_refl _)
  rw [e]
/-- one turn -/
theorem pi_step {m : Nat} (hm : m ≤ 3) (ih : ∀ ds : List PyData, ds.length ≤ m → FP (m + 1) "_law_picks" [.list ds] = some (.list ((pickN m ds).map .list))) {ds : List PyData} (hds : ds.length ≤ m + 1) {k : Nat} (hk : k < ds.length) {R : List PyData} (hR : R.length ≤ 400) :
    SPi (FP (m + 1)) 8 (stAt piF.2 0) (piρk k R ds) = some (.next, piρr k (R ++ ((pickN m (ds.eraseIdx k)).map fun r => .list (ds.getD k .none :: r))) ds) := by
  have e := pi_turn (FP (m + 1)) (k : Int) R ds
  have hl : ds.length ≤ 1000 := by omega
  have le : (ds.eraseIdx k).length ≤ m := by rw [List.length_eraseIdx_of_lt hk]; omega
  rw [cut_to hl (Nat.le_of_lt hk), cut_from hl hk, Option.bind_some, Option.bind_some] at e
  have ea : addD (.list (ds.take k)) (.list (ds.drop (k + 1))) = some (.list (ds.eraseIdx k)) := by
    show mkList (ds.take k ++ ds.drop (k + 1)) = _
    rw [← List.eraseIdx_eq_take_drop_succ]
    exact mkList_ok (by omega)
  rw [ea, Option.bind_some, Option.bind_some, ih _ le, Option.bind_some] at e
  replace e : _ = ((evG _ _ _ _ _ _ (some ((pickN m (ds.eraseIdx k)).map PyData.list))).bind mkList).bind _ := e
  have hx : idxD (.list ds) (.int (k : Int)) = some (ds.getD k .none) := by
    have e2 : idxD (.list ds) (.int (k : Int)) = if idxOk (k : Int) then (seqIndex? (k : Int) ds.length).bind fun k => ds[k]? else none := rfl
    rw [e2, if_pos (by unfold idxOk; rw [decide_eq_true_eq]; omega)]
    unfold seqIndex?
    have hn : ¬ (k : Int) < 0 := by omega
    simp only [if_neg hn]
    rw [if_pos (by simp; omega)]
    show ds[((k : Int)).toNat]? = _
    rw [Int.toNat_natCast, List.getD_eq_getElem?_getD, List.getElem?_eq_getElem hk]; rfl
  have pl := pickN_len m _ le
  have p65 := pc_le m (by omega)
  have g := evG_flat (r := Rf (FP (m + 1)) 39) (scope := piLC.2.2) (sc := relabelS piLC.2.2 fPi.scope) (elt := piLC.1) (g := gAt piLC.2.1) (ρ := cxρ k ds) (φ := fun d => match d with | .list r => some (.list (ds.getD k .none :: r)) | _ => none) (ds := (pickN m (ds.eraseIdx k)).map PyData.list) (fun d hd => by
    obtain ⟨r, hr, rfl⟩ := List.mem_map.mp hd
    have := pickN_row m _ r hr
    rw [pi_item, hx, Option.bind_some, Option.bind_some, mkList_ok (by show 1 ≤ 1000; omega), Option.bind_some]
    show (mkList ([ds.getD k .none] ++ r)).map some = _
    rw [mkList_ok (by simp; omega)]
    rfl)
  have gf : ((pickN m (ds.eraseIdx k)).map PyData.list).filterMap (fun d => match d with | .list r => some (PyData.list (ds.getD k .none :: r)) | _ => none) = (pickN m (ds.eraseIdx k)).map fun r => .list (ds.getD k .none :: r) := by
    rw [List.filterMap_map]
    generalize pickN m (ds.eraseIdx k) = l
    induction l with
    | nil => rfl
    | cons r l ih => rw [List.filterMap_cons, List.map_cons, ← ih]; rfl
  rw [pi_lc, g, gf, Option.bind_some, mkList_ok (by rw [List.length_map]; omega), Option.bind_some] at e
  have ex : listOp "extend" R (.list ((pickN m (ds.eraseIdx k)).map fun r => .list (ds.getD k .none :: r))) = some (R ++ ((pickN m (ds.eraseIdx k)).map fun r => .list (ds.getD k .none :: r))) := by
    refine (if_neg (by decide +kernel)).trans ((if_pos (by rfl)).trans (if_pos ?_))
    rw [List.length_map]
    unfold top; omega
  rw [ex, Option.bind_some] at e
  exact e
noncomputable def piR (m : Nat) (ds : List PyData) (j : Nat) : List PyData := .list [] :: (List.range j).flatMap fun k => (pickN m (ds.eraseIdx k)).map fun r => .list (ds.getD k .none :: r)
theorem piR_len {m : Nat} (hm : m ≤ 3) {ds : List PyData} (hds : ds.length ≤ m + 1) {j : Nat} (hj : j ≤ ds.length) : (piR m ds j).length ≤ 300 := by
  unfold piR
  have := flat_len (f := fun k => (pickN m (ds.eraseIdx k)).map fun r => PyData.list (ds.getD k .none :: r)) (c := 65) (l := List.range j) fun k hk => by
    rw [List.length_map]
    have hk := List.mem_range.mp hk
    exact Nat.le_trans (pickN_len m _ (by rw [List.length_eraseIdx_of_lt (by omega)]; omega)) (pc_le m (by omega))
  rw [List.length_range] at this
  rw [List.length_cons]
  have : j * 65 ≤ 4 * 65 := Nat.mul_le_mul_right _ (by omega)
  omega
theorem pi_loop {m : Nat} (hm : m ≤ 3) (ih : ∀ ds : List PyData, ds.length ≤ m → FP (m + 1) "_law_picks" [.list ds] = some (.list ((pickN m ds).map .list))) {ds : List PyData} (hds : ds.length ≤ m + 1) :
    ∀ (c j : Nat) (ρ : Rho), j + c = ds.length → (ρ = piρ (piR m ds j) ds ∨ ∃ k, ρ = piρr k (piR m ds j) ds) →
      ∃ ρ', forL fPi.scope (XPi (FP (m + 1)) 9 piF.2) piF.1 ((List.range' j c).map fun (n : Nat) => PyData.int (n : Int)) ρ = some (.next, ρ') ∧ (ρ' = piρ (piR m ds ds.length) ds ∨ ∃ k, ρ' = piρr k (piR m ds ds.length) ds)
  | 0, j, ρ, e, h => by
    have : j = ds.length := by omega
    subst this
    exact ⟨ρ, rfl, h⟩
  | c + 1, j, ρ, e, h => by
    have st := pi_step hm ih hds (k := j) (by omega) (R := piR m ds j) (by have := piR_len hm hds (j := j) (by omega); omega)
    have hs : ρ.sets [("k", .int (j : Int))] = piρk j (piR m ds j) ds := by
      rcases h with rfl | ⟨k, rfl⟩ <;> rfl
    have en : piR m ds (j + 1) = piR m ds j ++ ((pickN m (ds.eraseIdx j)).map fun r => .list (ds.getD j .none :: r)) := by
      unfold piR
      rw [List.range_succ, List.flatMap_append, List.flatMap_singleton]
      rfl
    have t : XPi (FP (m + 1)) 9 piF.2 (ρ.sets [("k", .int (j : Int))]) = some (.next, piρr j (piR m ds (j + 1)) ds) := by
      rw [hs]
      show exL _ _ _ _ _ piF.2 _ = _
      rw [pi_f, exL_next st, en]
      rfl
    rw [List.range'_succ, List.map_cons, forL_next (pi_bind _) (pi_own _) t]
    exact pi_loop hm ih hds c (j + 1) _ (by omega) (.inr ⟨_, rfl⟩)
theorem pi_range {n : Nat} (h : n ≤ 1000) : rangeD (.int (n : Int)) = some ((List.range' 0 n).map fun (i : Nat) => PyData.int (i : Int)) := by
  have e : rangeD (.int (n : Int)) = if decide (0 ≤ (n : Int)) && decide ((n : Int) ≤ (top : Int)) then some ((List.range (n : Int).toNat).map fun (i : Nat) => PyData.int (i : Int)) else none := rfl
  have h1 : (n : Int) ≤ (top : Int) := Int.ofNat_le.mpr (le_top h)
  rw [e, decide_eq_true (Int.natCast_nonneg n), decide_eq_true h1, Bool.and_self, if_pos rfl, Int.toNat_natCast, List.range_eq_range']
theorem pi_run : ∀ (m : Nat), m ≤ 4 → ∀ ds : List PyData, ds.length ≤ m → FP (m + 1) "_law_picks" [.list ds] = some (.list ((pickN m ds).map .list)) := by
  have base : ∀ (m : Nat) (ds : List PyData) (R : List PyData) (ρ' : Rho), ds.length ≤ 4 → (ρ' = piρ R ds ∨ ∃ k, ρ' = piρr k R ds) → forL fPi.scope (XPi (FP m) 9 piF.2) piF.1 ((List.range' 0 ds.length).map fun (n : Nat) => PyData.int (n : Int)) (piρ [.list []] ds) = some (.next, ρ') → FP (m + 1) "_law_picks" [.list ds] = some (.list R) := fun m ds R ρ' hl hρ hf => by
    have e0 : FP (m + 1) "_law_picks" [.list ds] = runF (Rf (FP m) 40) HS ["rows"] 10 ["pairs"] fPi.body fPi.scope [.list ds] := by
      show (if (("_law_picks" : Str) == ("_law_picks" : Str)) = true then _ else none) = _
      exact if_pos (by rfl)
    rw [e0]
    refine (if_pos rfl).trans ?_
    show (match exL _ _ _ _ _ fPi.body _ with | some (.ret d, _) => some d | some (.next, _) => some .none | _ => none) = _
    have e1 := pi_s1 (FP m) [.list []] ds
    have hl2 : lenD (.list ds) = some (.int (ds.length : Int)) := if_pos (le_top (by omega))
    rw [hl2, Option.bind_some, pi_range (by omega), Option.bind_some, hf] at e1
    rw [pi_body, exL_next (pi_s0 (FP m) ds), exL_next e1]
    rcases hρ with rfl | ⟨k, rfl⟩
    · rw [exL_ret (pi_s2 (FP m) R ds)]
    · rw [exL_ret (pi_s2r (FP m) k R ds)]
  intro m
  induction m with
  | zero =>
    intro _ ds h
    have : ds = [] := List.eq_nil_of_length_eq_zero (by omega)
    subst this
    exact base 0 [] [.list []] _ (by decide) (.inl rfl) rfl
  | succ m ih =>
    intro hm ds h
    obtain ⟨ρ', hf, hρ⟩ := pi_loop (by omega) (ih (by omega)) h ds.length 0 (piρ [.list []] ds) (by omega) (.inl rfl)
    have := base (m + 1) ds _ ρ' (by omega) hρ hf
    rw [this]
    have e : pickN (m + 1) ds = [] :: (List.range ds.length).flatMap fun k => (pickN m (ds.eraseIdx k)).map fun r => ds.getD k .none :: r := rfl
    rw [e, List.map_cons, List.map_flatMap]
    simp only [List.map_map]
    rfl
end Mine

namespace Mine
open PySem PySem.Calls PySem.Spec PyProof.Rows PySem.W PySem.SeqAt

/-! _law_shuffles -/
noncomputable abbrev fSh := topFn pw "_law_shuffles"
noncomputable abbrev XSh (fn : Tbl) (n : Nat) := exs (Rf fn 40) [] fSh.scope HS n
noncomputable abbrev SSh (fn : Tbl) (n : Nat) (st : Stmt) (ρ : Rho) := (HS (Rf fn 40) fSh.scope ρ st).or (ex1 (Rf fn 40) [] fSh.scope (XSh fn n) ρ st)
noncomputable def boolEs : Expr → List Expr
  | .BoolOp _ es _ => es
  | _ => []
noncomputable def ifB (rs : List Stmt → Rho → Option (Fl × Rho)) (st : Stmt) (ρ : Rho) : PyData → Option (Fl × Rho)
  | .bool true => rs (thenOf st) ρ
  | .bool false => rs (elseOf st) ρ
  | _ => none
section
variable {r : Md → Scope → Rho → Expr → Option PyData} {sc : Scope} {ρ : Rho} {e : Expr} {es : List Expr} {b : Bool}
theorem evB_and (h : r .truth sc ρ e = some (.bool b)) : evB r .And sc ρ (e :: es) = if b then evB r .And sc ρ es else some false := by
  conv => lhs; unfold evB
  rw [h]
  cases b <;> rfl
theorem evB_or (h : r .truth sc ρ e = some (.bool b)) : evB r .Or sc ρ (e :: es) = if b then some true else evB r .Or sc ρ es := by
  conv => lhs; unfold evB
  rw [h]
  cases b <;> rfl
end
noncomputable abbrev shE (n : Nat) : Expr := (boolEs (rhsOf (stAt fSh.body 0))).getD n (.Constant .none 0 ⟨0, 0, 0, 0⟩)
noncomputable abbrev fiLC := lcOf (rhsOf (stAt fSh.body 1))
noncomputable def addE : Expr → Expr × Expr
  | .BinOp a _ b _ => (a, b)
  | e => (e, e)
noncomputable abbrev seLC := lcOf (addE (rhsOf (stAt fSh.body 2))).2
theorem sh_body : fSh.body = [stAt fSh.body 0, stAt fSh.body 1, stAt fSh.body 2] := by kernel_rfl
theorem sh_es : boolEs (rhsOf (stAt fSh.body 0)) = [shE 0, shE 1] := by kernel_rfl
theorem sh_th : thenOf (stAt fSh.body 0) = [stAt (thenOf (stAt fSh.body 0)) 0] := by kernel_rfl
theorem sh_el : elseOf (stAt fSh.body 0) = [] := by kernel_rfl
theorem fi_lc : fiLC.2.1 = [gAt fiLC.2.1] := by kernel_rfl
theorem se_lc : seLC.2.1 = [gAt seLC.2.1] := by kernel_rfl
noncomputable def shρ (L R : List PyData) : Rho := [("left", .val (.list L)), ("right", .val (.list R))]
section
variable (fn : Tbl) (L R : List PyData)
theorem sh_0 : SSh fn 9 (stAt fSh.body 0) (shρ L R) = (Rf fn 40 .truth fSh.scope (shρ L R) (rhsOf (stAt fSh.body 0))).bind (ifB (XSh fn 9) (stAt fSh.body 0) (shρ L R)) := by kernel_rfl
theorem sh_or : Rf fn 40 .truth fSh.scope (shρ L R) (rhsOf (stAt fSh.body 0)) = (evB (Rf fn 39) .Or fSh.scope (shρ L R) (boolEs (rhsOf (stAt fSh.body 0)))).map .bool := by kernel_rfl
theorem sh_t0 : Rf fn 39 .truth fSh.scope (shρ L R) (shE 0) = (cmpD .Eq (.list L) (.list [])).bind fun d => (truthD d).map .bool := by kernel_rfl
theorem sh_t1 : Rf fn 39 .truth fSh.scope (shρ L R) (shE 1) = (cmpD .Eq (.list R) (.list [])).bind fun d => (truthD d).map .bool := by kernel_rfl
theorem sh_ret : SSh fn 8 (stAt (thenOf (stAt fSh.body 0)) 0) (shρ L R) = (((addD (.list L) (.list R)).bind fun d => some [d]).bind mkList).bind fun d => some (.ret d, freeze (shρ L R)) := by kernel_rfl
theorem sh_1 : SSh fn 9 (stAt fSh.body 1) (shρ L R) = ((evG (Rf fn 39) fiLC.2.2 (relabelS fiLC.2.2 fSh.scope) fiLC.1 fiLC.2.1 [("left", .val (.list L))] ((((cutD (.list L) (some 1) none none).bind fun x => some [x, .list R]).bind (fn "_law_shuffles")).bind listOf)).bind mkList).bind fun d => some (.next, (shρ L R).set "first" (.val d)) := by kernel_rfl
theorem sh_2 (d : List PyData) : SSh fn 9 (stAt fSh.body 2) ((shρ L R).set "first" (.val (.list d))) = (((evG (Rf fn 38) seLC.2.2 (relabelS seLC.2.2 fSh.scope) seLC.1 seLC.2.1 [("right", .val (.list R))] (((((cutD (.list R) (some 1) none none).bind fun x => some [x]).bind fun ds => some (.list L :: ds)).bind (fn "_law_shuffles")).bind listOf)).bind mkList).bind fun y => addD (.list d) y).bind fun d' => some (.ret d', freeze ((shρ L R).set "first" (.val (.list d)))) := by kernel_rfl
theorem fi_item (d : List PyData) : evG1 (Rf fn 39) fiLC.2.2 (relabelS fiLC.2.2 fSh.scope) fiLC.1 (gAt fiLC.2.1) [("left", .val (.list L))] (.list d) = ((((idxD (.list L) (.int 0)).bind fun x => some [x]).bind mkList).bind fun x => addD x (.list d)).map some := by kernel_rfl
theorem se_item (d : List PyData) : evG1 (Rf fn 38) seLC.2.2 (relabelS seLC.2.2 fSh.scope) seLC.1 (gAt seLC.2.1) [("right", .val (.list R))] (.list d) = ((((idxD (.list R) (.int 0)).bind fun x => some [x]).bind mkList).bind fun x => addD x (.list d)).map some := by kernel_rfl
end

theorem PL_can : PL.all (fun d => d.canLay0 && strO d && decide (d.depth ≤ 4)) = true := by decide +kernel
theorem PL_small {d : PyData} (hd : d ∈ PL) : d.canLay0 = true ∧ strO d = true ∧ d.depth ≤ 4 := by
  have := List.all_eq_true.mp PL_can d hd
  simp only [Bool.and_eq_true, decide_eq_true_eq] at this
  exact ⟨this.1.1, this.1.2, this.2⟩
theorem small_PL {l : List PyData} (h : ∀ d ∈ l, d ∈ PL) : smallD (.list l) = true := smallD_list (n := 4) (fun d hd => (PL_small (h d hd)).1) (fun d hd => (PL_small (h d hd)).2.2) (by omega)
theorem eq_nil {l : List PyData} (h : ∀ d ∈ l, d ∈ PL) : cmpD .Eq (.list l) (.list []) = some (.bool l.isEmpty) := by
  rw [cmpEq (small_PL h) (by rfl)]
  cases l <;> rfl
/-- all ways to lay two rows into one another -/
noncomputable def shufN : Nat → List PyData → List PyData → List (List PyData)
  | 0, l, r => [l ++ r]
  | m + 1, l, r => if l.isEmpty || r.isEmpty then [l ++ r] else (shufN m l.tail r).map (fun x => l.headD .none :: x) ++ (shufN m l r.tail).map fun x => r.headD .none :: x
noncomputable def FS : Nat → Tbl
  | 0 => fun _ _ => none
  | m + 1 => fun f args => if f == ("_law_shuffles" : Str) then runF (Rf (FS m) 40) HS [] 10 ["left", "right"] fSh.body fSh.scope args else none
theorem shufN_len : ∀ (m : Nat) (l r : List PyData), (shufN m l r).length ≤ 2 ^ m
  | 0, _, _ => Nat.le_refl _
  | m + 1, l, r => by
    unfold shufN
    split
    · exact Nat.one_le_two_pow
    · rw [List.length_append, List.length_map, List.length_map]
      have := shufN_len m l.tail r
      have := shufN_len m l r.tail
      rw [Nat.pow_succ]; omega
theorem shufN_row : ∀ (m : Nat) (l r : List PyData), ∀ x ∈ shufN m l r, x.length = l.length + r.length
  | 0, l, r, x, h => by rw [List.mem_singleton.mp h, List.length_append]
  | m + 1, l, r, x, h => by
    unfold shufN at h
    split at h
    · rw [List.mem_singleton.mp h, List.length_append]
    · rename_i hc
      rw [Bool.or_eq_true, not_or] at hc
      have h1 : 1 ≤ l.length := by cases l with | nil => simp at hc | cons => simp
      have h2 : 1 ≤ r.length := by cases r with | nil => simp at hc | cons => simp
      rcases List.mem_append.mp h with h | h
      · obtain ⟨y, hy, rfl⟩ := List.mem_map.mp h
        have := shufN_row m _ _ y hy
        rw [List.length_tail] at this
        rw [List.length_cons]; omega
      · obtain ⟨y, hy, rfl⟩ := List.mem_map.mp h
        have := shufN_row m _ _ y hy
        rw [List.length_tail] at this
        rw [List.length_cons]; omega
theorem cut_tail {l : List PyData} (h : l.length ≤ 1000) (h1 : 1 ≤ l.length) : cutD (.list l) (some 1) none none = some (.list l.tail) := by
  have := cut_from (ds := l) (k := 0) h (by omega)
  rw [List.drop_one] at this
  exact this
theorem idx_head {l : List PyData} (h : l ≠ []) : idxD (.list l) (.int 0) = some (l.headD .none) := by
  cases l with
  | nil => exact absurd rfl h
  | cons a l =>
    have e : idxD (.list (a :: l)) (.int 0) = if idxOk 0 then (seqIndex? 0 (a :: l).length).bind fun k => (a :: l)[k]? else none := rfl
    rw [e, if_pos (by rfl)]
    unfold seqIndex?
    simp
theorem cons_map {h : PyData} {rows : List (List PyData)} (x : PyData → Option PyData) (hx : ∀ r, x (.list r) = some (.list (h :: r))) : (rows.map PyData.list).filterMap x = (rows.map fun r => h :: r).map .list := by
  rw [List.filterMap_map, List.map_map]
  induction rows with
  | nil => rfl
  | cons r l ih =>
    rw [List.filterMap_cons_some (b := .list (h :: r)) (hx r), List.map_cons, ih]; rfl
theorem sh_run : ∀ (m : Nat), m ≤ 5 → ∀ l r : List PyData, l.length + r.length ≤ m → (∀ d ∈ l, d ∈ PL) → (∀ d ∈ r, d ∈ PL) → FS (m + 1) "_law_shuffles" [.list l, .list r] = some (.list ((shufN m l r).map .list)) := by
  intro m
  induction m with
  | zero =>
    intro _ l r h _ _
    have e1 : l = [] := List.eq_nil_of_length_eq_zero (by omega)
    have e2 : r = [] := List.eq_nil_of_length_eq_zero (by omega)
    subst e1 e2
    kernel_rfl
  | succ m ih =>
    intro hm l r h hl hr
    have ih := ih (by omega)
    have e0 : FS (m + 1 + 1) "_law_shuffles" [.list l, .list r] = runF (Rf (FS (m + 1)) 40) HS [] 10 ["left", "right"] fSh.body fSh.scope [.list l, .list r] := by
      show (if (("_law_shuffles" : Str) == ("_law_shuffles" : Str)) = true then _ else none) = _
      exact if_pos (by rfl)
    rw [e0]
    refine (if_pos rfl).trans ?_
    show (match exL _ _ _ _ _ fSh.body (shρ l r) with | some (.ret d, _) => some d | some (.next, _) => some .none | _ => none) = _
    have s0 := sh_0 (FS (m + 1)) l r
    have t0 := sh_t0 (FS (m + 1)) l r
    rw [eq_nil hl] at t0
    have t1 := sh_t1 (FS (m + 1)) l r
    rw [eq_nil hr] at t1
    replace t0 : _ = some (PyData.bool l.isEmpty) := t0
    replace t1 : _ = some (PyData.bool r.isEmpty) := t1
    rw [sh_or, sh_es, evB_or t0, evB_or t1] at s0
    have ev : (if l.isEmpty = true then some true else if r.isEmpty = true then some true else evB (Rf (FS (m + 1)) 39) .Or fSh.scope (shρ l r) []) = some (l.isEmpty || r.isEmpty) := by
      cases l.isEmpty <;> cases r.isEmpty <;> rfl
    rw [ev] at s0
    replace s0 : _ = ifB (XSh (FS (m + 1)) 9) (stAt fSh.body 0) (shρ l r) (.bool (l.isEmpty || r.isEmpty)) := s0
    have en : shufN (m + 1) l r = if l.isEmpty || r.isEmpty then [l ++ r] else (shufN m l.tail r).map (fun x => l.headD .none :: x) ++ (shufN m l r.tail).map fun x => r.headD .none :: x := rfl
    rw [en]
    cases c : (l.isEmpty || r.isEmpty) with
    | true =>
      rw [c] at s0
      have rt := sh_ret (FS (m + 1)) l r
      have ea : addD (.list l) (.list r) = some (.list (l ++ r)) := by
        show mkList (l ++ r) = _
        exact mkList_ok (by rw [List.length_append]; omega)
      rw [ea, Option.bind_some, Option.bind_some, mkList_ok (by show 1 ≤ 1000; omega), Option.bind_some] at rt
      replace s0 : _ = XSh (FS (m + 1)) 9 (thenOf (stAt fSh.body 0)) (shρ l r) := s0
      have x9 : XSh (FS (m + 1)) 9 (thenOf (stAt fSh.body 0)) (shρ l r) = some (.ret (.list [.list (l ++ r)]), freeze (shρ l r)) := by
        show exL _ _ _ _ _ (thenOf (stAt fSh.body 0)) _ = _
        rw [sh_th, exL_ret rt]
      rw [sh_body, exL_ret (s0.trans x9)]
      rfl
    | false =>
      rw [c] at s0
      replace s0 : _ = XSh (FS (m + 1)) 9 (elseOf (stAt fSh.body 0)) (shρ l r) := s0
      rw [sh_el] at s0
      replace s0 : _ = some (Fl.next, shρ l r) := s0
      rw [Bool.or_eq_false_iff] at c
      have nl : l ≠ [] := fun z => by rw [z] at c; cases c.1
      have nr : r ≠ [] := fun z => by rw [z] at c; cases c.2
      have l1 : 1 ≤ l.length := List.length_pos_iff.mpr nl
      have r1 : 1 ≤ r.length := List.length_pos_iff.mpr nr
      have p : 2 ^ m ≤ 16 := Nat.pow_le_pow_right (by omega) (by omega : m ≤ 4)
      have n1 := shufN_len m l.tail r
      have n2 := shufN_len m l r.tail
      have s1 := sh_1 (FS (m + 1)) l r
      rw [cut_tail (by omega) l1, Option.bind_some, Option.bind_some, ih l.tail r (by rw [List.length_tail]; omega) (fun d hd => hl d (List.mem_of_mem_tail hd)) hr, Option.bind_some] at s1
      replace s1 : _ = ((evG _ _ _ _ _ _ (some ((shufN m l.tail r).map PyData.list))).bind mkList).bind _ := s1
      rw [fi_lc, evG_flat (φ := fun d => match d with | .list x => some (.list (l.headD .none :: x)) | _ => none) (fun d hd => by
        obtain ⟨x, hx, rfl⟩ := List.mem_map.mp hd
        have := shufN_row m _ _ x hx
        rw [List.length_tail] at this
        rw [fi_item, idx_head nl, Option.bind_some, Option.bind_some, mkList_ok (by show 1 ≤ 1000; omega), Option.bind_some]
        show (mkList ([l.headD .none] ++ x)).map some = _
        rw [mkList_ok (by simp; omega)]
        rfl), cons_map _ fun _ => rfl, Option.bind_some, mkList_ok (by rw [List.length_map, List.length_map]; omega), Option.bind_some] at s1
      have s2 := sh_2 (FS (m + 1)) l r (((shufN m l.tail r).map fun x => l.headD .none :: x).map .list)
      rw [cut_tail (by omega) r1, Option.bind_some, Option.bind_some, Option.bind_some, ih l r.tail (by rw [List.length_tail]; omega) hl (fun d hd => hr d (List.mem_of_mem_tail hd)), Option.bind_some] at s2
      replace s2 : _ = (((evG _ _ _ _ _ _ (some ((shufN m l r.tail).map PyData.list))).bind mkList).bind _).bind _ := s2
      rw [se_lc, evG_flat (φ := fun d => match d with | .list x => some (.list (r.headD .none :: x)) | _ => none) (fun d hd => by
        obtain ⟨x, hx, rfl⟩ := List.mem_map.mp hd
        have := shufN_row m _ _ x hx
        rw [List.length_tail] at this
        rw [se_item, idx_head nr, Option.bind_some, Option.bind_some, mkList_ok (by show 1 ≤ 1000; omega), Option.bind_some]
        show (mkList ([r.headD .none] ++ x)).map some = _
        rw [mkList_ok (by simp; omega)]
        rfl), cons_map _ fun _ => rfl, Option.bind_some, mkList_ok (by rw [List.length_map, List.length_map]; omega), Option.bind_some] at s2
      replace s2 : _ = (mkList (((shufN m l.tail r).map fun x => l.headD .none :: x).map PyData.list ++ ((shufN m l r.tail).map fun x => r.headD .none :: x).map PyData.list)).bind _ := s2
      rw [← List.map_append, mkList_ok (by rw [List.length_map, List.length_append, List.length_map, List.length_map]; omega), Option.bind_some] at s2
      rw [sh_body, exL_next s0, exL_next s1, exL_ret s2]
      rfl
end Mine

namespace Mine
open PySem PySem.Calls PySem.Spec PyProof.Rows PySem.W PySem.SeqAt

/-! _law_rows: its statements -/
noncomputable abbrev Cl := Nat × Str × Str
noncomputable def clD (c : Cl) : PyData := callD c.1 c.2.1 c.2.2
noncomputable def CL : List Cl := (List.range 4).flatMap fun k => NL.flatMap fun n => VL.map fun v => (k, n, v)
noncomputable abbrev fRo := topFn pw "_law_rows"
noncomputable abbrev XRo (fn : Tbl) (n : Nat) := exs (Rf fn 40) ["rows"] fRo.scope HS n
noncomputable abbrev SRo (fn : Tbl) (n : Nat) (st : Stmt) (ρ : Rho) := (HS (Rf fn 40) fRo.scope ρ st).or (ex1 (Rf fn 40) ["rows"] fRo.scope (XRo fn n) ρ st)
noncomputable abbrev roLC (i : Nat) := lcOf (rhsOf (stAt fRo.body i))
theorem ro_body : fRo.body = [stAt fRo.body 0, stAt fRo.body 1, stAt fRo.body 2, stAt fRo.body 3, stAt fRo.body 4, stAt fRo.body 5, stAt fRo.body 6, stAt fRo.body 7, stAt fRo.body 8] := by kernel_rfl
theorem ro_lc0 : (roLC 0).2.1 = [gAt (roLC 0).2.1] := by kernel_rfl
theorem ro_lc1 : (roLC 1).2.1 = [gAt (roLC 1).2.1] := by kernel_rfl
theorem ro_lc2 : (roLC 2).2.1 = [gAt (roLC 2).2.1] := by kernel_rfl
theorem ro_lc3 : (roLC 3).2.1 = [gAt (roLC 3).2.1] := by kernel_rfl
noncomputable def pickK (k : Nat) (c : Cl) : Option PyData := if c.1 = k then some (pr c.2.1 c.2.2) else none
noncomputable def nameK (k : Nat) (c : Cl) : Option PyData := if c.1 = k then some (.str c.2.1) else none
section
variable (fn : Tbl)
theorem ro_i0 : CL.map (fun c => evG1 (Rf fn 39) (roLC 0).2.2 (relabelS (roLC 0).2.2 fRo.scope) (roLC 0).1 (gAt (roLC 0).2.1) [] (clD c)) = CL.map fun c => some (pickK 0 c) := by kernel_rfl
theorem ro_i1 : CL.map (fun c => evG1 (Rf fn 39) (roLC 1).2.2 (relabelS (roLC 1).2.2 fRo.scope) (roLC 1).1 (gAt (roLC 1).2.1) [] (clD c)) = CL.map fun c => some (nameK 1 c) := by kernel_rfl
theorem ro_i2 : CL.map (fun c => evG1 (Rf fn 39) (roLC 2).2.2 (relabelS (roLC 2).2.2 fRo.scope) (roLC 2).1 (gAt (roLC 2).2.1) [] (clD c)) = CL.map fun c => some (pickK 2 c) := by kernel_rfl
theorem ro_i3 : CL.map (fun c => evG1 (Rf fn 39) (roLC 3).2.2 (relabelS (roLC 3).2.2 fRo.scope) (roLC 3).1 (gAt (roLC 3).2.1) [] (clD c)) = CL.map fun c => some (pickK 3 c) := by kernel_rfl
variable (b : Bool) (cs S D A O P W R : List PyData)
noncomputable def ro0 (b : Bool) (cs : List PyData) : Rho := [("stood", .val (.bool b)), ("calls", .val (.list cs))]
noncomputable def ro1 (b : Bool) (cs S : List PyData) : Rho := ("stores", .val (.list S)) :: ro0 b cs
noncomputable def ro2 (b : Bool) (cs S D : List PyData) : Rho := ("deletes", .val (.list D)) :: ro1 b cs S
noncomputable def ro3 (b : Bool) (cs S D A : List PyData) : Rho := ("adds", .val (.list A)) :: ro2 b cs S D
noncomputable def ro4 (b : Bool) (cs S D A O : List PyData) : Rho := ("offers", .val (.list O)) :: ro3 b cs S D A
noncomputable def ro5 (b : Bool) (cs S D A O P : List PyData) : Rho := ("picks", .val (.list P)) :: ro4 b cs S D A O
theorem ro_s0 : SRo fn 9 (stAt fRo.body 0) (ro0 b cs) = ((evG (Rf fn 39) (roLC 0).2.2 (relabelS (roLC 0).2.2 fRo.scope) (roLC 0).1 (roLC 0).2.1 [] (some cs)).bind mkList).bind fun d => some (.next, (ro0 b cs).set "stores" (.val d)) := by kernel_rfl
theorem ro_s1 : SRo fn 9 (stAt fRo.body 1) (ro1 b cs S) = ((evG (Rf fn 39) (roLC 1).2.2 (relabelS (roLC 1).2.2 fRo.scope) (roLC 1).1 (roLC 1).2.1 [] (some cs)).bind mkList).bind fun d => some (.next, (ro1 b cs S).set "deletes" (.val d)) := by kernel_rfl
theorem ro_s2 : SRo fn 9 (stAt fRo.body 2) (ro2 b cs S D) = ((evG (Rf fn 39) (roLC 2).2.2 (relabelS (roLC 2).2.2 fRo.scope) (roLC 2).1 (roLC 2).2.1 [] (some cs)).bind mkList).bind fun d => some (.next, (ro2 b cs S D).set "adds" (.val d)) := by kernel_rfl
theorem ro_s3 : SRo fn 9 (stAt fRo.body 3) (ro3 b cs S D A) = ((evG (Rf fn 39) (roLC 3).2.2 (relabelS (roLC 3).2.2 fRo.scope) (roLC 3).1 (roLC 3).2.1 [] (some cs)).bind mkList).bind fun d => some (.next, (ro3 b cs S D A).set "offers" (.val d)) := by kernel_rfl
theorem ro_s4 : SRo fn 9 (stAt fRo.body 4) (ro4 b cs S D A O) = (fn "_law_picks" [.list A]).bind fun d => some (.next, (ro4 b cs S D A O).set "picks" (.val d)) := by kernel_rfl
/-! neither store nor delete -/
noncomputable abbrev roIf := stAt fRo.body 5
noncomputable abbrev roT := thenOf roIf
noncomputable abbrev roE (n : Nat) : Expr := (boolEs (rhsOf roIf)).getD n (.Constant .none 0 ⟨0, 0, 0, 0⟩)
noncomputable abbrev whLC := lcOf (rhsOf (stAt roT 0))
noncomputable abbrev roIf2 := stAt roT 1
noncomputable abbrev roE2 (n : Nat) : Expr := (boolEs (rhsOf roIf2)).getD n (.Constant .none 0 ⟨0, 0, 0, 0⟩)
noncomputable abbrev ofLC := lcOf (addE (rhsOf (stAt roT 2))).1
theorem ro_t : roT = [stAt roT 0, roIf2, stAt roT 2] := by kernel_rfl
theorem ro_t2 : thenOf roIf2 = [stAt (thenOf roIf2) 0] := by kernel_rfl
theorem ro_el : elseOf roIf = [] ∧ elseOf roIf2 = [] := ⟨by kernel_rfl, by kernel_rfl⟩
theorem ro_es : boolEs (rhsOf roIf) = [roE 0, roE 1] := by kernel_rfl
theorem ro_es2 : boolEs (rhsOf roIf2) = [roE2 0, roE2 1] := by kernel_rfl
theorem wh_lc : whLC.2.1 = [gAt whLC.2.1] := by kernel_rfl
theorem ro_5 : SRo fn 9 roIf (ro5 b cs S D A O P) = (Rf fn 40 .truth fRo.scope (ro5 b cs S D A O P) (rhsOf roIf)).bind (ifB (XRo fn 9) roIf (ro5 b cs S D A O P)) := by kernel_rfl
theorem ro_and : Rf fn 40 .truth fRo.scope (ro5 b cs S D A O P) (rhsOf roIf) = (evB (Rf fn 39) .And fRo.scope (ro5 b cs S D A O P) (boolEs (rhsOf roIf))).map .bool := by kernel_rfl
theorem ro_e0 : Rf fn 39 .truth fRo.scope (ro5 b cs S D A O P) (roE 0) = (cmpD .Eq (.list S) (.list [])).bind fun d => (truthD d).map .bool := by kernel_rfl
theorem ro_e1 : Rf fn 39 .truth fRo.scope (ro5 b cs S D A O P) (roE 1) = (cmpD .Eq (.list D) (.list [])).bind fun d => (truthD d).map .bool := by kernel_rfl
noncomputable def ro6 (b : Bool) (cs S D A O P W : List PyData) : Rho := ("whole", .val (.list W)) :: ro5 b cs S D A O P
theorem ro_wh : SRo fn 8 (stAt roT 0) (ro5 b cs S D A O P) = ((evG (Rf fn 39) whLC.2.2 (relabelS whLC.2.2 fRo.scope) whLC.1 whLC.2.1 [("adds", .val (.list A))] (some P)).bind mkList).bind fun d => some (.next, (ro5 b cs S D A O P).set "whole" (.val d)) := by kernel_rfl
theorem wh_item (r : List PyData) : evG1 (Rf fn 39) whLC.2.2 (relabelS whLC.2.2 fRo.scope) whLC.1 (gAt whLC.2.1) [("adds", .val (.list A))] (.list r) = (((lenD (.list r)).bind fun x => (lenD (.list A)).bind fun y => (cmpD .Eq x y).bind fun d => (truthD d).map .bool).bind truthD).bind fun t => if t then (some (PyData.list r)).map some else some none := by kernel_rfl
theorem ro_6 : SRo fn 8 roIf2 (ro6 b cs S D A O P W) = (Rf fn 40 .truth fRo.scope (ro6 b cs S D A O P W) (rhsOf roIf2)).bind (ifB (XRo fn 8) roIf2 (ro6 b cs S D A O P W)) := by kernel_rfl
theorem ro_or : Rf fn 40 .truth fRo.scope (ro6 b cs S D A O P W) (rhsOf roIf2) = (evB (Rf fn 39) .Or fRo.scope (ro6 b cs S D A O P W) (boolEs (rhsOf roIf2))).map .bool := by kernel_rfl
theorem ro_o0 : Rf fn 39 .truth fRo.scope (ro6 b cs S D A O P W) (roE2 0) = some (.bool b) := by kernel_rfl
theorem ro_o1 : Rf fn 39 .truth fRo.scope (ro6 b cs S D A O P W) (roE2 1) = (cmpD .Eq (.list O) (.list [])).bind fun d => (truthD d).map .bool := by kernel_rfl
theorem ro_rw : SRo fn 7 (stAt (thenOf roIf2) 0) (ro6 b cs S D A O P W) = some (.ret (.list W), freeze (ro6 b cs S D A O P W)) := by kernel_rfl
theorem ro_ro : SRo fn 8 (stAt roT 2) (ro6 b cs S D A O P W) = (((evG (Rf fn 38) ofLC.2.2 (relabelS ofLC.2.2 fRo.scope) ofLC.1 ofLC.2.1 [("whole", .val (.list W))] (some O)).bind mkList).bind fun x => (((cmpD .NotEq (.list A) (.list [])).bind fun d => (truthD d).map PyData.bool).bind fun c => match c with | .bool true => some (PyData.list W) | .bool false => some (.list []) | _ => none).bind fun y => addD x y).bind fun d => some (.ret d, freeze (ro6 b cs S D A O P W)) := by kernel_rfl
/-! a store or a delete -/
noncomputable abbrev roLC6 := lcOf (rhsOf (stAt fRo.body 6))
noncomputable abbrev roIf3 := stAt fRo.body 7
noncomputable abbrev roLC7 := lcOf (arg0 (rhsOf (stAt (thenOf roIf3) 1)))
theorem ro_t3 : thenOf roIf3 = [stAt (thenOf roIf3) 0, stAt (thenOf roIf3) 1] := by kernel_rfl
theorem ro_el3 : elseOf roIf3 = [] := by kernel_rfl
noncomputable def ro7 (R : List PyData) (b : Bool) (cs S D A O P : List PyData) : Rho := ("rows", .own R) :: ro5 b cs S D A O P
theorem ro_s6 : SRo fn 9 (stAt fRo.body 6) (ro5 b cs S D A O P) = ((evG (Rf fn 39) roLC6.2.2 (relabelS roLC6.2.2 fRo.scope) roLC6.1 roLC6.2.1 [("picks", .val (.list P))] (some S)).bind mkList).bind fun d => match d with | .list ds => some (.next, (ro5 b cs S D A O P).set "rows" (.own ds)) | _ => none := by kernel_rfl
theorem ro_7 : SRo fn 9 roIf3 (ro7 R b cs S D A O P) = ((cmpD .NotEq (.list D) (.list [])).bind fun d => (truthD d).map .bool).bind (ifB (XRo fn 9) roIf3 (ro7 R b cs S D A O P)) := by kernel_rfl
theorem ro_x0 : SRo fn 8 (stAt (thenOf roIf3) 0) (ro7 R b cs S D A O P) = (listOp "extend" R (.list P)).bind fun R' => some (.next, (ro7 R b cs S D A O P).set "rows" (.own R')) := by kernel_rfl
theorem ro_x1 : SRo fn 8 (stAt (thenOf roIf3) 1) (ro7 R b cs S D A O P) = ((evG (Rf fn 39) roLC7.2.2 (relabelS roLC7.2.2 fRo.scope) roLC7.1 roLC7.2.1 [("picks", .val (.list P))] (some O)).bind mkList).bind fun d => (listOp "extend" R d).bind fun R' => some (.next, (ro7 R b cs S D A O P).set "rows" (.own R')) := by kernel_rfl
theorem ro_s8 : SRo fn 9 (stAt fRo.body 8) (ro7 R b cs S D A O P) = some (.ret (.list R), freeze (ro7 R b cs S D A O P)) := by kernel_rfl
end
end Mine

namespace Mine
open PySem PySem.Calls PySem.Spec PyProof.Rows PySem.W PySem.SeqAt

/-! a comprehension with two clauses -/
theorem evG_two {r : Md → Scope → Rho → Expr → Option PyData} {scope sc : Scope} {elt : Expr} {g g' : Comprehension} {ρ : Rho} {F : PyData → List PyData} : ∀ {ds : List PyData},
    (∀ d ∈ ds, ∃ b, bindD g.target d = some b ∧ (b.all fun p => own1 scope p.1 && (ρ.lookup p.1).isNone) = true ∧ evTests r sc (ρ.sets b) g.ifs = some true ∧ evG r scope sc elt [g'] (ρ.sets b) (itemsD r sc (ρ.sets b) g'.iter) = some (F d)) →
    evG r scope sc elt [g, g'] ρ (some ds) = some (ds.flatMap F)
  | [], _ => rfl
  | d :: ds, h => by
    have ih := evG_two (r := r) (scope := scope) (sc := sc) (elt := elt) (g := g) (g' := g') (ρ := ρ) (F := F) (ds := ds) fun d' hd' => h d' (List.mem_cons_of_mem _ hd')
    obtain ⟨b, h1, h2, h3, h4⟩ := h d List.mem_cons_self
    unfold evG at ih ⊢
    rw [Option.bind_some] at ih ⊢
    rw [List.foldr_cons, ih, h1, Option.bind_some, if_pos h2, h3, Option.bind_some, if_pos rfl]
    show (evG r scope sc elt [g'] (ρ.sets b) (itemsD r sc (ρ.sets b) g'.iter)).bind _ = _
    rw [h4, Option.bind_some, List.flatMap_cons]
    rfl
section
variable (fn : Tbl) (d : PyData) (P W : List PyData)
noncomputable abbrev g0 (l : List Comprehension) : Comprehension := l.getD 0 ⟨.Constant .none 0 ⟨0, 0, 0, 0⟩, .Constant .none 0 ⟨0, 0, 0, 0⟩, [], 0⟩
noncomputable abbrev g1 (l : List Comprehension) : Comprehension := l.getD 1 ⟨.Constant .none 0 ⟨0, 0, 0, 0⟩, .Constant .none 0 ⟨0, 0, 0, 0⟩, [], 0⟩
theorem of_lc : ofLC.2.1 = [g0 ofLC.2.1, g1 ofLC.2.1] := by kernel_rfl
theorem r6_lc : roLC6.2.1 = [g0 roLC6.2.1, g1 roLC6.2.1] := by kernel_rfl
theorem r7_lc : roLC7.2.1 = [g0 roLC7.2.1, g1 roLC7.2.1] := by kernel_rfl
noncomputable def two (x : Str) (d : PyData) (y : Str) (P : List PyData) : Rho := [(x, .val d), (y, .val (.list P))]
theorem of_b : bindD (g0 ofLC.2.1).target d = some [(("offer" : Str), d)] ∧ ([(("offer" : Str), d)].all fun p => own1 ofLC.2.2 p.1 && (([("whole", .val (.list W))] : Rho).lookup p.1).isNone) = true := ⟨by kernel_rfl, by kernel_rfl⟩
theorem of_t : evTests (Rf fn 38) (relabelS ofLC.2.2 fRo.scope) (two "offer" d "whole" W) (g0 ofLC.2.1).ifs = some true := by kernel_rfl
theorem of_i : itemsD (Rf fn 38) (relabelS ofLC.2.2 fRo.scope) (two "offer" d "whole" W) (g1 ofLC.2.1).iter = some W := by kernel_rfl
theorem of_e (r : List PyData) : evG1 (Rf fn 38) ofLC.2.2 (relabelS ofLC.2.2 fRo.scope) ofLC.1 (g1 ofLC.2.1) (two "offer" d "whole" W) (.list r) = (((some [d]).bind mkList).bind fun x => addD x (.list r)).map some := by kernel_rfl
theorem r6_b : bindD (g0 roLC6.2.1).target d = some [(("store" : Str), d)] ∧ ([(("store" : Str), d)].all fun p => own1 roLC6.2.2 p.1 && (([("picks", .val (.list P))] : Rho).lookup p.1).isNone) = true := ⟨by kernel_rfl, by kernel_rfl⟩
theorem r6_t : evTests (Rf fn 39) (relabelS roLC6.2.2 fRo.scope) (two "store" d "picks" P) (g0 roLC6.2.1).ifs = some true := by kernel_rfl
theorem r6_i : itemsD (Rf fn 39) (relabelS roLC6.2.2 fRo.scope) (two "store" d "picks" P) (g1 roLC6.2.1).iter = some P := by kernel_rfl
theorem r6_e (r : List PyData) : evG1 (Rf fn 39) roLC6.2.2 (relabelS roLC6.2.2 fRo.scope) roLC6.1 (g1 roLC6.2.1) (two "store" d "picks" P) (.list r) = (((some [d]).bind mkList).bind fun x => addD x (.list r)).map some := by kernel_rfl
theorem r7_b : bindD (g0 roLC7.2.1).target d = some [(("offer" : Str), d)] ∧ ([(("offer" : Str), d)].all fun p => own1 roLC7.2.2 p.1 && (([("picks", .val (.list P))] : Rho).lookup p.1).isNone) = true := ⟨by kernel_rfl, by kernel_rfl⟩
theorem r7_t : evTests (Rf fn 39) (relabelS roLC7.2.2 fRo.scope) (two "offer" d "picks" P) (g0 roLC7.2.1).ifs = some true := by kernel_rfl
theorem r7_i : itemsD (Rf fn 39) (relabelS roLC7.2.2 fRo.scope) (two "offer" d "picks" P) (g1 roLC7.2.1).iter = some P := by kernel_rfl
theorem r7_e (r : List PyData) : evG1 (Rf fn 39) roLC7.2.2 (relabelS roLC7.2.2 fRo.scope) roLC7.1 (g1 roLC7.2.1) (two "offer" d "picks" P) (.list r) = (((some [d]).bind mkList).bind fun x => addD x (.list r)).map some := by kernel_rfl
end
/-- every x ahead of every row -/
noncomputable def aheadN (xs : List PyData) (rows : List (List PyData)) : List (List PyData) := xs.flatMap fun x => rows.map fun r => x :: r
theorem ahead_eq (xs : List PyData) (rows : List (List PyData)) : (xs.flatMap fun x => (rows.map fun r => x :: r).map PyData.list) = (aheadN xs rows).map .list := by
  unfold aheadN
  rw [List.map_flatMap]
section
variable {fn : Tbl} {xs : List PyData} {rows : List (List PyData)} (hr : ∀ r ∈ rows, r.length ≤ 900)
include hr
theorem cons_item {d : PyData} {r : List PyData} (h : r ∈ rows) : (((some [d]).bind mkList).bind fun x => addD x (.list r)).map some = some (some (.list (d :: r))) := by
  have := hr r h
  rw [Option.bind_some, mkList_ok (by show 1 ≤ 1000; omega), Option.bind_some]
  show (mkList ([d] ++ r)).map some = _
  rw [mkList_ok (by simp; omega)]
  rfl
theorem of_all : evG (Rf fn 38) ofLC.2.2 (relabelS ofLC.2.2 fRo.scope) ofLC.1 ofLC.2.1 [("whole", .val (.list (rows.map .list)))] (some xs) = some ((aheadN xs rows).map .list) := by
  rw [of_lc]
  refine (evG_two (F := fun x => (rows.map fun r => x :: r).map .list) fun d _ => ⟨_, (of_b d (rows.map .list)).1, (of_b d (rows.map .list)).2, of_t fn d (rows.map .list), ?_⟩).trans (by rw [ahead_eq])
  have e := of_i fn d (rows.map .list)
  replace e : itemsD (Rf fn 38) (relabelS ofLC.2.2 fRo.scope) (Rho.sets [("whole", .val (.list (rows.map .list)))] [("offer", d)]) (g1 ofLC.2.1).iter = _ := e
  rw [e]
  refine (evG_flat (φ := fun x => match x with | .list r => some (.list (d :: r)) | _ => none) (fun y hy => ?_)).trans ?_
  · obtain ⟨r, h, rfl⟩ := List.mem_map.mp hy
    exact (of_e fn d _ r).trans (cons_item hr h)
  · rw [cons_map _ fun _ => rfl]
theorem r6_all : evG (Rf fn 39) roLC6.2.2 (relabelS roLC6.2.2 fRo.scope) roLC6.1 roLC6.2.1 [("picks", .val (.list (rows.map .list)))] (some xs) = some ((aheadN xs rows).map .list) := by
  rw [r6_lc]
  refine (evG_two (F := fun x => (rows.map fun r => x :: r).map .list) fun d _ => ⟨_, (r6_b d (rows.map .list)).1, (r6_b d (rows.map .list)).2, r6_t fn d (rows.map .list), ?_⟩).trans (by rw [ahead_eq])
  have e := r6_i fn d (rows.map .list)
  replace e : itemsD (Rf fn 39) (relabelS roLC6.2.2 fRo.scope) (Rho.sets [("picks", .val (.list (rows.map .list)))] [("store", d)]) (g1 roLC6.2.1).iter = _ := e
  rw [e]
  refine (evG_flat (φ := fun x => match x with | .list r => some (.list (d :: r)) | _ => none) (fun y hy => ?_)).trans ?_
  · obtain ⟨r, h, rfl⟩ := List.mem_map.mp hy
    exact (r6_e fn d _ r).trans (cons_item hr h)
  · rw [cons_map _ fun _ => rfl]
theorem r7_all : evG (Rf fn 39) roLC7.2.2 (relabelS roLC7.2.2 fRo.scope) roLC7.1 roLC7.2.1 [("picks", .val (.list (rows.map .list)))] (some xs) = some ((aheadN xs rows).map .list) := by
  rw [r7_lc]
  refine (evG_two (F := fun x => (rows.map fun r => x :: r).map .list) fun d _ => ⟨_, (r7_b d (rows.map .list)).1, (r7_b d (rows.map .list)).2, r7_t fn d (rows.map .list), ?_⟩).trans (by rw [ahead_eq])
  have e := r7_i fn d (rows.map .list)
  replace e : itemsD (Rf fn 39) (relabelS roLC7.2.2 fRo.scope) (Rho.sets [("picks", .val (.list (rows.map .list)))] [("offer", d)]) (g1 roLC7.2.1).iter = _ := e
  rw [e]
  refine (evG_flat (φ := fun x => match x with | .list r => some (.list (d :: r)) | _ => none) (fun y hy => ?_)).trans ?_
  · obtain ⟨r, h, rfl⟩ := List.mem_map.mp hy
    exact (r7_e fn d _ r).trans (cons_item hr h)
  · rw [cons_map _ fun _ => rfl]
end
end Mine

namespace Mine
open PySem PySem.Calls PySem.Spec PyProof.Rows PySem.W PySem.SeqAt

/-! the run of _law_rows -/
noncomputable def unD : PyData → Cl
  | .tuple [.int k, .str n, .str v] => (k.toNat, n, v)
  | _ => (0, "", "")
theorem unD_clD (c : Cl) : unD (clD c) = c := by
  obtain ⟨k, n, v⟩ := c
  rfl
theorem filt_cl {f : Cl → Option PyData} (cs : List Cl) : (cs.map clD).filterMap (fun d => f (unD d)) = cs.filterMap f := by
  rw [List.filterMap_map]
  rfl
/-- what a letter's rows can be -/
noncomputable def rowsN (b : Bool) (cs : List Cl) : List (List PyData) :=
  let P := pickN 4 (cs.filterMap (pickK 2))
  if (cs.filterMap (pickK 0)).isEmpty && (cs.filterMap (nameK 1)).isEmpty then
    (if b || (cs.filterMap (pickK 3)).isEmpty then P.filter fun r => r.length == (cs.filterMap (pickK 2)).length
    else aheadN (cs.filterMap (pickK 3)) (P.filter fun r => r.length == (cs.filterMap (pickK 2)).length) ++ (if (cs.filterMap (pickK 2)).isEmpty then [] else P.filter fun r => r.length == (cs.filterMap (pickK 2)).length))
  else aheadN (cs.filterMap (pickK 0)) P ++ (if (cs.filterMap (nameK 1)).isEmpty then [] else P ++ aheadN (cs.filterMap (pickK 3)) P)
section
variable (fn : Tbl) {cs : List Cl} (hc : ∀ c ∈ cs, c ∈ CL)
include hc
theorem ro_g0 : evG (Rf fn 39) (roLC 0).2.2 (relabelS (roLC 0).2.2 fRo.scope) (roLC 0).1 (roLC 0).2.1 [] (some (cs.map clD)) = some (cs.filterMap (pickK 0)) := by
  rw [ro_lc0, evG_flat (φ := fun d => pickK 0 (unD d)) (fun d hd => by
    obtain ⟨c, h, rfl⟩ := List.mem_map.mp hd
    rw [unD_clD]
    exact of_map_eq (ro_i0 fn) c (hc c h)), filt_cl]
theorem ro_g1 : evG (Rf fn 39) (roLC 1).2.2 (relabelS (roLC 1).2.2 fRo.scope) (roLC 1).1 (roLC 1).2.1 [] (some (cs.map clD)) = some (cs.filterMap (nameK 1)) := by
  rw [ro_lc1, evG_flat (φ := fun d => nameK 1 (unD d)) (fun d hd => by
    obtain ⟨c, h, rfl⟩ := List.mem_map.mp hd
    rw [unD_clD]
    exact of_map_eq (ro_i1 fn) c (hc c h)), filt_cl]
theorem ro_g2 : evG (Rf fn 39) (roLC 2).2.2 (relabelS (roLC 2).2.2 fRo.scope) (roLC 2).1 (roLC 2).2.1 [] (some (cs.map clD)) = some (cs.filterMap (pickK 2)) := by
  rw [ro_lc2, evG_flat (φ := fun d => pickK 2 (unD d)) (fun d hd => by
    obtain ⟨c, h, rfl⟩ := List.mem_map.mp hd
    rw [unD_clD]
    exact of_map_eq (ro_i2 fn) c (hc c h)), filt_cl]
theorem ro_g3 : evG (Rf fn 39) (roLC 3).2.2 (relabelS (roLC 3).2.2 fRo.scope) (roLC 3).1 (roLC 3).2.1 [] (some (cs.map clD)) = some (cs.filterMap (pickK 3)) := by
  rw [ro_lc3, evG_flat (φ := fun d => pickK 3 (unD d)) (fun d hd => by
    obtain ⟨c, h, rfl⟩ := List.mem_map.mp hd
    rw [unD_clD]
    exact of_map_eq (ro_i3 fn) c (hc c h)), filt_cl]
end

/-! small facts -/
theorem eq_int : (List.range 5).map (fun (a : Nat) => (List.range 5).map fun (b : Nat) => (cmpD .Eq (.int a) (.int b)).bind fun d => (truthD d).map .bool) = (List.range 5).map fun (a : Nat) => (List.range 5).map fun (b : Nat) => some (PyData.bool (a == b)) := by kernel_rfl
theorem ne_nil {l : List PyData} (h : ∀ d ∈ l, d ∈ PL) : cmpD .NotEq (.list l) (.list []) = some (.bool (!l.isEmpty)) := by
  rw [cmpNe (small_PL h) (by rfl)]
  cases l <;> rfl
noncomputable abbrev NLs : List PyData := NL.map PyData.str
theorem NLs_small : NLs.all (fun d => d.canLay0 && decide (d.depth ≤ 4)) = true := by decide +kernel
theorem small_str {l : List PyData} (h : ∀ d ∈ l, d ∈ NLs) : smallD (.list l) = true := by
  have z : ∀ d ∈ l, d.canLay0 = true ∧ d.depth ≤ 4 := fun d hd => by
    have := List.all_eq_true.mp NLs_small d (h d hd)
    rw [Bool.and_eq_true, decide_eq_true_eq] at this
    exact this
  exact smallD_list (n := 4) (fun d hd => (z d hd).1) (fun d hd => (z d hd).2) (by omega)
theorem eq_nils {l : List PyData} (h : ∀ d ∈ l, d ∈ NLs) : cmpD .Eq (.list l) (.list []) = some (.bool l.isEmpty) := by
  rw [cmpEq (small_str h) (by rfl)]
  cases l <;> rfl
theorem ne_nils {l : List PyData} (h : ∀ d ∈ l, d ∈ NLs) : cmpD .NotEq (.list l) (.list []) = some (.bool (!l.isEmpty)) := by
  rw [cmpNe (small_str h) (by rfl)]
  cases l <;> rfl
theorem bool_tr (b : Bool) : ((some (PyData.bool b)).bind fun d => (truthD d).map PyData.bool) = some (.bool b) := by rfl
theorem ahead_len {xs : List PyData} {rows : List (List PyData)} {a b : Nat} (hx : xs.length ≤ a) (hr : rows.length ≤ b) : (aheadN xs rows).length ≤ a * b := by
  have := flat_len (f := fun x => rows.map fun r => x :: r) (c := b) (l := xs) fun x _ => by rw [List.length_map]; exact hr
  exact Nat.le_trans this (Nat.mul_le_mul_right _ hx)
theorem filt_list (q : List PyData → Bool) : ∀ (rows : List (List PyData)), (rows.map PyData.list).filterMap (fun y => match y with | PyData.list r => if q r then some (PyData.list r) else none | _ => none) = (rows.filter q).map .list
  | [] => rfl
  | r :: rows => by
    rw [List.map_cons, List.filter_cons]
    cases c : q r with
    | true =>
      rw [List.filterMap_cons_some (b := .list r) (by show (if q r = true then _ else _) = _; rw [c]; rfl), filt_list q rows]
      rfl
    | false =>
      rw [List.filterMap_cons_none (by show (if q r = true then _ else _) = _; rw [c]; rfl), filt_list q rows]
      rfl
section
variable (fn : Tbl) (b : Bool) (cs S D A O : List PyData) (P W : List (List PyData))
noncomputable abbrev L5 (b : Bool) (cs S D A O : List PyData) (P : List (List PyData)) := ro5 b cs S D A O (P.map .list)
theorem ext_ok {R R' : List (List PyData)} (h : R.length + R'.length ≤ 1000) : listOp "extend" (R.map .list) (.list (R'.map .list)) = some ((R ++ R').map .list) := by
  show (if ("extend" : Str) == "append" then _ else if ("extend" : Str) == "extend" then (if (R.map PyData.list).length + (R'.map PyData.list).length ≤ top then some (R.map PyData.list ++ R'.map .list) else none) else _) = _
  rw [if_neg (by decide +kernel), if_pos (by decide +kernel), if_pos (by rw [List.length_map, List.length_map]; exact le_top h), List.map_append]
/-- neither store nor delete: what is given -/
noncomputable def wholeN (b : Bool) (A O : List PyData) (W : List (List PyData)) : List (List PyData) :=
  if b || O.isEmpty then W else aheadN O W ++ (if A.isEmpty then [] else W)
theorem ro_whole (hA : A.length ≤ 4) (hO : O.length ≤ 4) (pA : ∀ d ∈ A, d ∈ PL) (pO : ∀ d ∈ O, d ∈ PL) (hP : P.length ≤ 65) (hr : ∀ r ∈ P, r.length ≤ 4) :
    ∃ ρ', XRo fn 9 roT (L5 b cs S D A O P) = some (.ret (.list ((wholeN b A O (P.filter fun r => r.length == A.length)).map .list)), ρ') := by
  have w0 := ro_wh fn b cs S D A O (P.map .list)
  rw [wh_lc, evG_flat (φ := fun y => match y with | .list r => if r.length == A.length then some (.list r) else none | _ => none) (fun y hy => by
    obtain ⟨r, h, rfl⟩ := List.mem_map.mp hy
    have h4 := hr r h
    have e1 : lenD (.list r) = some (.int (r.length : Int)) := if_pos (le_top (by omega))
    have e2 : lenD (.list A) = some (.int (A.length : Int)) := if_pos (le_top (by omega))
    rw [wh_item, e1, e2, Option.bind_some, Option.bind_some]
    have := of_map_eq (of_map_eq eq_int r.length (List.mem_range.mpr (by omega))) A.length (List.mem_range.mpr (by omega))
    rw [this]
    cases c : (r.length == A.length) with
    | true =>
      show _ = some (if (r.length == A.length) = true then _ else _)
      rw [c]; rfl
    | false =>
      show _ = some (if (r.length == A.length) = true then _ else _)
      rw [c]; rfl), filt_list] at w0
  have hW : (P.filter fun r => r.length == A.length).length ≤ 65 := Nat.le_trans (List.length_filter_le _ _) hP
  have hWr : ∀ r ∈ P.filter (fun r => r.length == A.length), r.length ≤ 4 := fun r h => hr r (List.mem_filter.mp h).1
  generalize P.filter (fun r => r.length == A.length) = W at w0 hW hWr ⊢
  rw [Option.bind_some, mkList_ok (by rw [List.length_map]; omega), Option.bind_some] at w0
  replace w0 : SRo fn 8 (stAt roT 0) (L5 b cs S D A O P) = some (.next, ro6 b cs S D A O (P.map .list) (W.map .list)) := w0
  show ∃ ρ', exL _ _ _ _ _ roT _ = _
  rw [ro_t, exL_next w0]
  have s6 := ro_6 fn b cs S D A O (P.map .list) (W.map .list)
  have o0 := ro_o0 fn b cs S D A O (P.map .list) (W.map .list)
  have o1 := ro_o1 fn b cs S D A O (P.map .list) (W.map .list)
  rw [eq_nil pO, bool_tr] at o1
  rw [ro_or, ro_es2, evB_or o0, evB_or o1] at s6
  have ev : (if b = true then some true else if O.isEmpty = true then some true else evB (Rf fn 39) .Or fRo.scope (ro6 b cs S D A O (P.map .list) (W.map .list)) []) = some (b || O.isEmpty) := by
    cases b <;> cases O.isEmpty <;> rfl
  rw [ev] at s6
  replace s6 : _ = ifB (XRo fn 8) roIf2 (ro6 b cs S D A O (P.map .list) (W.map .list)) (.bool (b || O.isEmpty)) := s6
  unfold wholeN
  cases c : (b || O.isEmpty) with
  | true =>
    rw [c] at s6
    replace s6 : _ = exL (Rf fn 40) ["rows"] fRo.scope HS (XRo fn 7) (thenOf roIf2) (ro6 b cs S D A O (P.map .list) (W.map .list)) := s6
    rw [ro_t2, exL_ret (ro_rw fn b cs S D A O (P.map .list) (W.map .list))] at s6
    exact ⟨_, exL_ret s6⟩
  | false =>
    rw [c] at s6
    replace s6 : _ = XRo fn 8 (elseOf roIf2) _ := s6
    rw [ro_el.2] at s6
    replace s6 : _ = some (Fl.next, ro6 b cs S D A O (P.map .list) (W.map .list)) := s6
    rw [exL_next s6]
    have r := ro_ro fn b cs S D A O (P.map .list) (W.map .list)
    have la := ahead_len hO hW
    rw [of_all (fn := fn) (xs := O) (rows := W) (fun r h => by have := hWr r h; omega), Option.bind_some, mkList_ok (by rw [List.length_map]; omega), Option.bind_some, ne_nil pA, bool_tr, Option.bind_some] at r
    rw [if_neg (by decide)]
    cases cA : A.isEmpty with
    | true =>
      rw [cA] at r
      replace r : _ = (mkList ((aheadN O W).map PyData.list ++ [])).bind _ := r
      rw [List.append_nil, mkList_ok (by rw [List.length_map]; omega), Option.bind_some] at r
      rw [if_pos rfl, List.append_nil]
      exact ⟨_, exL_ret r⟩
    | false =>
      rw [cA] at r
      replace r : _ = (mkList ((aheadN O W).map PyData.list ++ W.map .list)).bind _ := r
      rw [← List.map_append, mkList_ok (by rw [List.length_map, List.length_append]; omega), Option.bind_some] at r
      rw [if_neg (by decide)]
      exact ⟨_, exL_ret r⟩
/-- a store or a delete: what is given -/
noncomputable def goneN (S D O : List PyData) (P : List (List PyData)) : List (List PyData) :=
  aheadN S P ++ (if D.isEmpty then [] else P ++ aheadN O P)
theorem ro_gone (hS : S.length ≤ 4) (hO : O.length ≤ 4) (pD : ∀ d ∈ D, d ∈ NLs) (hP : P.length ≤ 65) (hr : ∀ r ∈ P, r.length ≤ 4) :
    ∃ ρ', exL (Rf fn 40) ["rows"] fRo.scope HS (XRo fn 9) [stAt fRo.body 6, roIf3, stAt fRo.body 8] (L5 b cs S D A O P) = some (.ret (.list ((goneN S D O P).map .list)), ρ') := by
  have s6 := ro_s6 fn b cs S D A O (P.map .list)
  have l1 := ahead_len hS hP
  have l2 := ahead_len hO hP
  rw [r6_all (fn := fn) (xs := S) (rows := P) (fun r h => by have := hr r h; omega), Option.bind_some, mkList_ok (by rw [List.length_map]; omega), Option.bind_some] at s6
  replace s6 : _ = some (Fl.next, ro7 ((aheadN S P).map .list) b cs S D A O (P.map .list)) := s6
  rw [exL_next s6]
  have s7 := ro_7 fn b cs S D A O (P.map .list) ((aheadN S P).map .list)
  rw [ne_nils pD, bool_tr, Option.bind_some] at s7
  unfold goneN
  cases c : D.isEmpty with
  | true =>
    rw [c] at s7
    replace s7 : _ = XRo fn 9 (elseOf roIf3) _ := s7
    rw [ro_el3] at s7
    replace s7 : _ = some (Fl.next, ro7 ((aheadN S P).map .list) b cs S D A O (P.map .list)) := s7
    rw [exL_next s7, if_pos rfl, List.append_nil]
    exact ⟨_, exL_ret (ro_s8 fn b cs S D A O (P.map .list) _)⟩
  | false =>
    rw [c] at s7
    replace s7 : _ = exL (Rf fn 40) ["rows"] fRo.scope HS (XRo fn 8) (thenOf roIf3) (ro7 ((aheadN S P).map .list) b cs S D A O (P.map .list)) := s7
    have x0 := ro_x0 fn b cs S D A O (P.map .list) ((aheadN S P).map .list)
    rw [ext_ok (by omega), Option.bind_some] at x0
    replace x0 : _ = some (Fl.next, ro7 ((aheadN S P ++ P).map .list) b cs S D A O (P.map .list)) := x0
    have x1 := ro_x1 fn b cs S D A O (P.map .list) ((aheadN S P ++ P).map .list)
    rw [r7_all (fn := fn) (xs := O) (rows := P) (fun r h => by have := hr r h; omega), Option.bind_some, mkList_ok (by rw [List.length_map]; omega), Option.bind_some, ext_ok (by rw [List.length_append]; omega), Option.bind_some] at x1
    replace x1 : _ = some (Fl.next, ro7 ((aheadN S P ++ P ++ aheadN O P).map .list) b cs S D A O (P.map .list)) := x1
    rw [ro_t3, exL_next x0, exL_next x1] at s7
    replace s7 : _ = some (Fl.next, ro7 ((aheadN S P ++ P ++ aheadN O P).map .list) b cs S D A O (P.map .list)) := s7
    rw [exL_next s7, if_neg (by decide), ← List.append_assoc]
    exact ⟨_, exL_ret (ro_s8 fn b cs S D A O (P.map .list) _)⟩
end
theorem CL_PL {c : Cl} (h : c ∈ CL) : pr c.2.1 c.2.2 ∈ PL := by
  obtain ⟨k, _, h⟩ := List.mem_flatMap.mp h
  obtain ⟨n, hn, h⟩ := List.mem_flatMap.mp h
  obtain ⟨v, hv, rfl⟩ := List.mem_map.mp h
  exact List.mem_flatMap.mpr ⟨n, hn, List.mem_map.mpr ⟨v, hv, rfl⟩⟩
theorem CL_NL {c : Cl} (h : c ∈ CL) : PyData.str c.2.1 ∈ NLs := by
  obtain ⟨k, _, h⟩ := List.mem_flatMap.mp h
  obtain ⟨n, hn, h⟩ := List.mem_flatMap.mp h
  obtain ⟨v, hv, rfl⟩ := List.mem_map.mp h
  exact List.mem_map.mpr ⟨n, hn, rfl⟩
theorem pick_PL {k : Nat} {cs : List Cl} (hc : ∀ c ∈ cs, c ∈ CL) : ∀ d ∈ cs.filterMap (pickK k), d ∈ PL := fun d h => by
  obtain ⟨c, h0, e⟩ := List.mem_filterMap.mp h
  have z := CL_PL (hc c h0)
  unfold pickK at e
  by_cases q : c.1 = k
  · rw [if_pos q] at e
    exact Option.some.inj e ▸ z
  · rw [if_neg q] at e
    cases e
theorem name_str {k : Nat} {cs : List Cl} (hc : ∀ c ∈ cs, c ∈ CL) : ∀ d ∈ cs.filterMap (nameK k), d ∈ NLs := fun d h => by
  obtain ⟨c, h0, e⟩ := List.mem_filterMap.mp h
  have z := CL_NL (hc c h0)
  unfold nameK at e
  by_cases q : c.1 = k
  · rw [if_pos q] at e
    exact Option.some.inj e ▸ z
  · rw [if_neg q] at e
    cases e
theorem ro_run {fn : Tbl} (b : Bool) {cs : List Cl} (hf : ∀ a, fn "_law_picks" a = FP 5 "_law_picks" a) (hc : ∀ c ∈ cs, c ∈ CL) (hl : cs.length ≤ 4) :
    runF (Rf fn 40) HS ["rows"] 10 ["stood", "calls"] fRo.body fRo.scope [.bool b, .list (cs.map clD)] = some (.list ((rowsN b cs).map .list)) := by
  refine (if_pos rfl).trans ?_
  show (match exL _ _ _ _ _ fRo.body (ro0 b (cs.map clD)) with | some (.ret d, _) => some d | some (.next, _) => some .none | _ => none) = _
  have n0 : (cs.filterMap (pickK 0)).length ≤ 4 := Nat.le_trans (List.length_filterMap_le _ _) hl
  have n1 : (cs.filterMap (nameK 1)).length ≤ 4 := Nat.le_trans (List.length_filterMap_le _ _) hl
  have n2 : (cs.filterMap (pickK 2)).length ≤ 4 := Nat.le_trans (List.length_filterMap_le _ _) hl
  have n3 : (cs.filterMap (pickK 3)).length ≤ 4 := Nat.le_trans (List.length_filterMap_le _ _) hl
  have s0 := ro_s0 fn b (cs.map clD)
  rw [ro_g0 fn hc, Option.bind_some, mkList_ok (by omega), Option.bind_some] at s0
  replace s0 : _ = some (Fl.next, ro1 b (cs.map clD) (cs.filterMap (pickK 0))) := s0
  have s1 := ro_s1 fn b (cs.map clD) (cs.filterMap (pickK 0))
  rw [ro_g1 fn hc, Option.bind_some, mkList_ok (by omega), Option.bind_some] at s1
  replace s1 : _ = some (Fl.next, ro2 b (cs.map clD) (cs.filterMap (pickK 0)) (cs.filterMap (nameK 1))) := s1
  have s2 := ro_s2 fn b (cs.map clD) (cs.filterMap (pickK 0)) (cs.filterMap (nameK 1))
  rw [ro_g2 fn hc, Option.bind_some, mkList_ok (by omega), Option.bind_some] at s2
  replace s2 : _ = some (Fl.next, ro3 b (cs.map clD) (cs.filterMap (pickK 0)) (cs.filterMap (nameK 1)) (cs.filterMap (pickK 2))) := s2
  have s3 := ro_s3 fn b (cs.map clD) (cs.filterMap (pickK 0)) (cs.filterMap (nameK 1)) (cs.filterMap (pickK 2))
  rw [ro_g3 fn hc, Option.bind_some, mkList_ok (by omega), Option.bind_some] at s3
  replace s3 : _ = some (Fl.next, ro4 b (cs.map clD) (cs.filterMap (pickK 0)) (cs.filterMap (nameK 1)) (cs.filterMap (pickK 2)) (cs.filterMap (pickK 3))) := s3
  have s4 := ro_s4 fn b (cs.map clD) (cs.filterMap (pickK 0)) (cs.filterMap (nameK 1)) (cs.filterMap (pickK 2)) (cs.filterMap (pickK 3))
  rw [hf, pi_run 4 (by omega) _ n2, Option.bind_some] at s4
  replace s4 : _ = some (Fl.next, L5 b (cs.map clD) (cs.filterMap (pickK 0)) (cs.filterMap (nameK 1)) (cs.filterMap (pickK 2)) (cs.filterMap (pickK 3)) (pickN 4 (cs.filterMap (pickK 2)))) := s4
  have hP : (pickN 4 (cs.filterMap (pickK 2))).length ≤ 65 := pickN_len 4 _ n2
  have hr := pickN_row 4 (cs.filterMap (pickK 2))
  have e : rowsN b cs = if (cs.filterMap (pickK 0)).isEmpty && (cs.filterMap (nameK 1)).isEmpty then wholeN b (cs.filterMap (pickK 2)) (cs.filterMap (pickK 3)) ((pickN 4 (cs.filterMap (pickK 2))).filter fun r => r.length == (cs.filterMap (pickK 2)).length) else goneN (cs.filterMap (pickK 0)) (cs.filterMap (nameK 1)) (cs.filterMap (pickK 3)) (pickN 4 (cs.filterMap (pickK 2))) := rfl
  rw [e, ro_body, exL_next s0, exL_next s1, exL_next s2, exL_next s3, exL_next s4]
  have pS := pick_PL (k := 0) hc
  have pD := name_str (k := 1) hc
  have pA := pick_PL (k := 2) hc
  have pO := pick_PL (k := 3) hc
  clear s0 s1 s2 s3 s4 e
  generalize cs.filterMap (pickK 0) = S at *
  generalize cs.filterMap (nameK 1) = D at *
  generalize cs.filterMap (pickK 2) = A at *
  generalize cs.filterMap (pickK 3) = O at *
  generalize pickN 4 A = P at *
  have s5 := ro_5 fn b (cs.map clD) S D A O (P.map .list)
  have o0 := ro_e0 fn b (cs.map clD) S D A O (P.map .list)
  have o1 := ro_e1 fn b (cs.map clD) S D A O (P.map .list)
  rw [eq_nil pS, bool_tr] at o0
  rw [eq_nils pD, bool_tr] at o1
  rw [ro_and, ro_es, evB_and o0, evB_and o1] at s5
  have ev : (if S.isEmpty = true then (if D.isEmpty = true then evB (Rf fn 39) .And fRo.scope (ro5 b (cs.map clD) S D A O (P.map .list)) [] else some false) else some false) = some (S.isEmpty && D.isEmpty) := by
    cases S.isEmpty <;> cases D.isEmpty <;> rfl
  rw [ev] at s5
  replace s5 : _ = ifB (XRo fn 9) roIf (ro5 b (cs.map clD) S D A O (P.map .list)) (.bool (S.isEmpty && D.isEmpty)) := s5
  cases c : (S.isEmpty && D.isEmpty) with
  | true =>
    rw [c] at s5
    obtain ⟨ρ', h⟩ := ro_whole fn b (cs.map clD) S D A O P n2 n3 pA pO hP hr
    rw [exL_ret (s5.trans h)]
    rfl
  | false =>
    rw [c] at s5
    replace s5 : _ = XRo fn 9 (elseOf roIf) _ := s5
    rw [ro_el.1] at s5
    replace s5 : _ = some (Fl.next, ro5 b (cs.map clD) S D A O (P.map .list)) := s5
    obtain ⟨ρ', h⟩ := ro_gone fn b (cs.map clD) S D A O P n0 n3 pD hP hr
    rw [exL_next s5, h]
    rfl
end Mine

namespace Mine
open PySem PySem.Calls PySem.Spec PyProof.Rows PySem.W PySem.SeqAt

/-! _law_played -/
noncomputable def isCl (d : PyData) (c : Cl) : Bool := match d with
  | .tuple [.int k, .str n, .str v] => k == (c.1 : Int) && n == c.2.1 && v == c.2.2
  | _ => false
noncomputable def clOf (d : PyData) : Option Cl := CL.find? (isCl d)
theorem clOf_clD : CL.map (fun c => clOf (clD c)) = CL.map some := by kernel_rfl
theorem isCl_eq {d : PyData} {c : Cl} (h : isCl d c = true) : d = clD c := by
  cases d with
  | tuple l =>
    rcases l with _ | ⟨x, _ | ⟨y, _ | ⟨z, _ | ⟨u, l⟩⟩⟩⟩
    · exact noB h
    · cases x with | _ => exact noB h
    · cases x with
      | int i => cases y with | _ => exact noB h
      | _ => exact noB h
    · cases x with
      | int i =>
        cases y with
        | str n =>
          cases z with
          | str v =>
            replace h : (i == (c.1 : Int) && n == c.2.1 && v == c.2.2) = true := h
            simp only [Bool.and_eq_true, beq_iff_eq] at h
            obtain ⟨⟨rfl, rfl⟩, rfl⟩ := h
            rfl
          | _ => exact noB h
        | _ => exact noB h
      | _ => exact noB h
    · cases x with
      | int i =>
        cases y with
        | str n => cases z with | _ => exact noB h
        | _ => exact noB h
      | _ => exact noB h
  | _ => exact noB h
theorem clOf_eq {d : PyData} {c : Cl} (q : clOf d = some c) : d = clD c ∧ c ∈ CL := ⟨isCl_eq (List.find?_some q), List.mem_of_find?_eq_some q⟩
noncomputable def doP (c : Cl) (ps : List PyData) : List PyData := callP c.1 c.2.1 c.2.2 ps
noncomputable def wfC (f : Str) (ps args : List PyData) : Option (List PyData × PyData) := match args with
  | [] => none
  | a :: as => if f == ("_law_call" : Str) && as.isEmpty && okPs ps && decide (ps.length < 12) then (clOf a).map fun c => (doP c ps, .none) else none
noncomputable def HSp : SHook := fun r sc ρ st => (HS r sc ρ st).or (hkFw wfC r sc ρ st)
noncomputable abbrev fPl := topFn pw "_law_played"
noncomputable abbrev plF := forOf (stAt fPl.body 1)
noncomputable abbrev plI := stAt plF.2 0
noncomputable abbrev plT := thenOf plI
noncomputable abbrev plC := forOf (stAt plT 1)
noncomputable abbrev plA := thenOf (stAt plT 3)
noncomputable abbrev Wp : List Str := ["found", "pairs", "calls"]
noncomputable def nzPl : Stmt → Rho → Rho := nzS [
  (nzS.lineOf (stAt fPl.body 1), Wp), (nzS.lineOf plI, "order" :: Wp), (nzS.lineOf (stAt plT 0), "order" :: Wp), (nzS.lineOf (stAt plT 1), "table" :: "order" :: Wp),
  (nzS.lineOf (stAt plC.2 0), "call" :: "table" :: Wp), (nzS.lineOf (stAt plT 2), "table" :: Wp), (nzS.lineOf (stAt plT 3), "then" :: Wp), (nzS.lineOf (stAt plA 0), "then" :: Wp), (nzS.lineOf (stAt fPl.body 2), Wp)]
theorem pl_body : fPl.body = [stAt fPl.body 0, stAt fPl.body 1, stAt fPl.body 2] := by kernel_rfl
theorem pl_f : plF.2 = [plI] := by kernel_rfl
theorem pl_t : plT = [stAt plT 0, stAt plT 1, stAt plT 2, stAt plT 3] := by kernel_rfl
theorem pl_c : plC.2 = [stAt plC.2 0] := by kernel_rfl
theorem pl_a : plA = [stAt plA 0] := by kernel_rfl
theorem pl_e : elseOf plI = [] ∧ elseOf (stAt plT 3) = [] := ⟨by kernel_rfl, by kernel_rfl⟩
section
variable (fn : Tbl)
noncomputable abbrev XPl (n : Nat) := exsS (Rf fn 40) ["found"] fPl.scope HSp nzPl n
noncomputable abbrev SPl (n : Nat) (st : Stmt) (ρ : Rho) := exSt (Rf fn 40) ["found"] fPl.scope HSp nzPl (XPl fn n) st ρ
variable (d : PyData) (F ps cs t os qs : List PyData)
noncomputable def pl3 (F ps cs : List PyData) : Rho := [("found", .own F), ("pairs", .val (.list ps)), ("calls", .val (.list cs))]
noncomputable def plO (os F ps cs : List PyData) : Rho := ("order", .val (.list os)) :: pl3 F ps cs
noncomputable def plT' (t os F ps cs : List PyData) : Rho := ("table", .hdr t) :: plO os F ps cs
noncomputable def plC' (d : PyData) (t F ps cs : List PyData) : Rho := ("call", .val d) :: ("table", .hdr t) :: pl3 F ps cs
noncomputable def plH (q : PyData) (F ps cs : List PyData) : Rho := ("then", .val q) :: pl3 F ps cs
theorem pl_0 : SPl fn 9 (stAt fPl.body 0) (rho0 ["pairs", "calls"] [.list ps, .list cs]) = some (.next, pl3 [] ps cs) := by kernel_rfl
theorem pl_1 : SPl fn 9 (stAt fPl.body 1) (pl3 F ps cs) = ((fn "_law_picks" [.list cs]).bind listOf).bind fun items => forL fPl.scope (XPl fn 9 plF.2) plF.1 items (pl3 F ps cs) := by kernel_rfl
theorem pl_i : SPl fn 8 plI (plO os F ps cs) = ((lenD (.list os)).bind fun x => (cmpD .Eq x (.int 4)).bind fun d => (truthD d).map PyData.bool).bind (ifB (XPl fn 8) plI (plO os F ps cs)) := by kernel_rfl
theorem pl_t0 : HS (Rf fn 40) fPl.scope (nzPl (stAt plT 0) (plO os F ps cs)) (stAt plT 0) = (mkList ps).bind fun d => (listD d).bind fun ps' => if okPs ps' then some (.next, (plO os F ps cs).set "table" (.hdr ps')) else none := by kernel_rfl
theorem pl_t1 : SPl fn 7 (stAt plT 1) (plT' t os F ps cs) = forL fPl.scope (XPl fn 7 plC.2) plC.1 os (plT' t os F ps cs) := by kernel_rfl
theorem pl_c0 : HS (Rf fn 40) fPl.scope (nzPl (stAt plC.2 0) (plC' d t F ps cs)) (stAt plC.2 0) = none := by kernel_rfl
theorem pl_c1 : hkFw wfC (Rf fn 40) fPl.scope (nzPl (stAt plC.2 0) (plC' d t F ps cs)) (stAt plC.2 0) = (wfC "_law_call" t [d]).bind fun q => if scalarD q.2 then some (.next, (plC' d t F ps cs).set "table" (.hdr q.1)) else none := by kernel_rfl
noncomputable def plD (t F ps cs : List PyData) : Rho := ("table", .hdr t) :: pl3 F ps cs
theorem pl_t2 : SPl fn 7 (stAt plT 2) (plD t F ps cs) = ((rd1 "items" t []).or none).bind fun q => some (.next, (plD t F ps cs).set "then" (.val q)) := by kernel_rfl
theorem pl_t3 : SPl fn 7 (stAt plT 3) (plH d F ps cs) = ((cmpD .NotIn d (.list F)).bind fun d => (truthD d).map PyData.bool).bind (ifB (XPl fn 7) (stAt plT 3) (plH d F ps cs)) := by kernel_rfl
theorem pl_a0 : SPl fn 6 (stAt plA 0) (plH d F ps cs) = (listOp "append" F d).bind fun F' => some (.next, (plH d F ps cs).set "found" (.own F')) := by kernel_rfl
theorem pl_2 : SPl fn 9 (stAt fPl.body 2) (pl3 F ps cs) = some (.ret (.list F), freeze (pl3 F ps cs)) := by kernel_rfl
end

/-! picks of any sort of things -/
noncomputable def pickG {X : Type} (z : X) : Nat → List X → List (List X)
  | 0, _ => [[]]
  | m + 1, ds => [] :: (List.range ds.length).flatMap fun k => (pickG z m (ds.eraseIdx k)).map fun r => ds.getD k z :: r
theorem pickN_G : ∀ (m : Nat) (ds : List PyData), pickN m ds = pickG .none m ds
  | 0, _ => rfl
  | m + 1, ds => by
    unfold pickN pickG
    congr 1
    exact congrArg (fun g => (List.range ds.length).flatMap g) (funext fun k => by rw [pickN_G m])
theorem flat_congr {α β : Type} {f g : α → List β} : ∀ {l : List α}, (∀ a ∈ l, f a = g a) → l.flatMap f = l.flatMap g
  | [], _ => rfl
  | a :: l, h => by rw [List.flatMap_cons, List.flatMap_cons, h a List.mem_cons_self, flat_congr fun b hb => h b (List.mem_cons_of_mem _ hb)]
theorem erase_map {X Y : Type} (f : X → Y) : ∀ (l : List X) (k : Nat), (l.map f).eraseIdx k = (l.eraseIdx k).map f
  | [], _ => rfl
  | _ :: _, 0 => rfl
  | a :: l, k + 1 => congrArg (f a :: ·) (erase_map f l k)
theorem pickG_map {X Y : Type} (f : X → Y) (z : X) (z' : Y) : ∀ (m : Nat) (ds : List X), pickG z' m (ds.map f) = (pickG z m ds).map (List.map f)
  | 0, _ => rfl
  | m + 1, ds => by
    unfold pickG
    rw [List.map_cons, List.map_flatMap, List.length_map]
    congr 1
    refine flat_congr fun k hk => ?_
    have hk := List.mem_range.mp hk
    rw [erase_map, pickG_map f z z' m, List.map_map, List.map_map]
    refine List.map_congr_left fun r _ => ?_
    show (ds.map f).getD k z' :: r.map f = (ds.getD k z :: r).map f
    rw [List.map_cons]
    congr 1
    rw [List.getD_eq_getElem?_getD, List.getD_eq_getElem?_getD, List.getElem?_map, List.getElem?_eq_getElem hk]
    rfl
noncomputable abbrev zC : Cl := (0, "", "")
theorem picks_calls (cs : List Cl) : (pickN 4 (cs.map clD)).map PyData.list = (pickG zC 4 cs).map fun l => .list (l.map clD) := by
  rw [pickN_G, pickG_map clD zC, List.map_map]
  rfl
/-! what calls do -/
theorem okPs_app {n v : Str} (hn : n ∈ NL) (hv : v ∈ VL) {ps : List PyData} (h : okPs ps = true) (hl : ps.length < 12) : okPs (ps ++ [pr n v]) = true := by
  unfold okPs at h ⊢
  rw [Bool.and_eq_true, decide_eq_true_eq] at h ⊢
  refine ⟨?_, by rw [List.length_append]; exact hl⟩
  rw [List.all_append, h.1]
  show (true && ((NL.contains n && VL.contains v) && true)) = true
  rw [List.contains_iff_mem.mpr hn, List.contains_iff_mem.mpr hv]; rfl
theorem CL_in {c : Cl} (h : c ∈ CL) : c.1 < 4 ∧ c.2.1 ∈ NL ∧ c.2.2 ∈ VL := by
  obtain ⟨k, hk, h⟩ := List.mem_flatMap.mp h
  obtain ⟨n, hn, h⟩ := List.mem_flatMap.mp h
  obtain ⟨v, hv, rfl⟩ := List.mem_map.mp h
  exact ⟨List.mem_range.mp hk, hn, hv⟩
theorem doP_ok {c : Cl} (hc : c ∈ CL) {t : List PyData} (h : okPs t = true) (hl : t.length < 12) : okPs (doP c t) = true ∧ (doP c t).length ≤ t.length + 1 := by
  obtain ⟨_, hn, hv⟩ := CL_in hc
  have d := delP_ok hn h
  have dl : (delP c.2.1 t).length ≤ t.length := List.length_filterMap_le _ _
  unfold doP callP
  by_cases h0 : c.1 = 0
  · rw [if_pos h0]
    exact ⟨okPs_app hn hv d (by omega), by rw [List.length_append]; exact Nat.succ_le_succ dl⟩
  rw [if_neg h0]
  by_cases h1 : c.1 = 1
  · rw [if_pos h1]; exact ⟨d, by omega⟩
  rw [if_neg h1]
  by_cases h2 : c.1 = 2
  · rw [if_pos h2]; exact ⟨okPs_app hn hv h hl, by rw [List.length_append]; exact Nat.le_refl _⟩
  rw [if_neg h2]
  unfold sdP
  split
  · exact ⟨h, Nat.le_succ _⟩
  · exact ⟨okPs_app hn hv h hl, by rw [List.length_append]; exact Nat.le_refl _⟩
theorem wfC_do {c : Cl} (hc : c ∈ CL) {t : List PyData} (h : okPs t = true) (hl : t.length < 12) : wfC "_law_call" t [clD c] = some (doP c t, .none) := by
  show (if ("_law_call" : Str) == ("_law_call" : Str) && true && okPs t && decide (t.length < 12) then _ else none) = _
  rw [h, decide_eq_true hl, if_pos (by rfl), of_map_eq clOf_clD c hc]
  rfl
noncomputable def runD (l : List Cl) (t : List PyData) : List PyData := l.foldl (fun t c => doP c t) t
section
variable {fn : Tbl} {F ps cs : List PyData}
theorem SPl_nz {st : Stmt} {ρ ρ' : Rho} {n : Nat} (h : nzPl st ρ = nzPl st ρ') : SPl fn n st ρ = SPl fn n st ρ' := by
  unfold SPl exSt
  rw [h]
theorem SPl_hs {st : Stmt} {ρ : Rho} {n : Nat} {q : Fl × Rho} (h : HS (Rf fn 40) fPl.scope (nzPl st ρ) st = some q) : SPl fn n st ρ = some q := by
  unfold SPl exSt
  show ((HS _ _ _ _).or _).or _ = _
  rw [h]; rfl
theorem SPl_fw {st : Stmt} {ρ : Rho} {n : Nat} {q : Fl × Rho} (h0 : HS (Rf fn 40) fPl.scope (nzPl st ρ) st = none) (h : hkFw wfC (Rf fn 40) fPl.scope (nzPl st ρ) st = some q) : SPl fn n st ρ = some q := by
  unfold SPl exSt
  show ((HS _ _ _ _).or _).or _ = _
  rw [h0, h]; rfl
inductive InS (F ps cs t : List PyData) (ρ : Rho) : Prop
  | mk (c : ∀ d, nzPl (stAt plC.2 0) (ρ.sets [("call", d)]) = plC' d t F ps cs) (e : nzPl (stAt plT 2) ρ = plD t F ps cs)
theorem in_0 (t os : List PyData) : InS F ps cs t (plT' t os F ps cs) := ⟨fun d => by kernel_rfl, by kernel_rfl⟩
theorem in_1 (d : PyData) (t t' : List PyData) : InS F ps cs t' ((plC' d t F ps cs).set "table" (.hdr t')) := ⟨fun d => by kernel_rfl, by kernel_rfl⟩
theorem pl_cb (d : PyData) : bindD plC.1 d = some [(("call" : Str), d)] := by kernel_rfl
theorem pl_co (d : PyData) : ([(("call" : Str), d)].all fun p => own1 fPl.scope p.1) = true := by kernel_rfl
theorem pl_ob (d : PyData) : bindD plF.1 d = some [(("order" : Str), d)] := by kernel_rfl
theorem pl_oo (d : PyData) : ([(("order" : Str), d)].all fun p => own1 fPl.scope p.1) = true := by kernel_rfl
theorem nzC_id (d : PyData) (t : List PyData) : nzPl (stAt plC.2 0) (plC' d t F ps cs) = plC' d t F ps cs := by kernel_rfl
theorem pl_inner : ∀ (l : List Cl) (t : List PyData) (ρ : Rho), InS F ps cs t ρ → (∀ c ∈ l, c ∈ CL) → okPs t = true → t.length + l.length ≤ 11 →
    ∃ ρ', forL fPl.scope (XPl fn 7 plC.2) plC.1 (l.map clD) ρ = some (.next, ρ') ∧ InS F ps cs (runD l t) ρ' ∧ okPs (runD l t) = true
  | [], t, ρ, I, _, h, _ => ⟨ρ, rfl, I, h⟩
  | c :: l, t, ρ, I, hc, h, hl => by
    rw [List.length_cons] at hl
    have cC := hc c List.mem_cons_self
    obtain ⟨o1, o2⟩ := doP_ok cC h (by omega)
    have e0 := pl_c0 fn (clD c) F ps cs t
    have e1 := pl_c1 fn (clD c) F ps cs t
    rw [wfC_do cC h (by omega), Option.bind_some, nzC_id] at e1
    rw [nzC_id] at e0
    replace e1 := e1.trans (if_pos rfl)
    have I1 := I.1 (clD c)
    have z : XPl fn 7 plC.2 (ρ.sets [("call", clD c)]) = some (.next, (plC' (clD c) t F ps cs).set "table" (.hdr (doP c t))) := by
      rw [pl_c]
      show exLS _ _ _ _ _ _ [stAt plC.2 0] _ = _
      rw [exLS_next (SPl_fw (n := 6) (by rw [I1]; exact e0) (by rw [I1]; exact e1))]
      rfl
    rw [List.map_cons, forL_next (pl_cb _) (pl_co _) z]
    exact pl_inner l (doP c t) _ (in_1 _ _ _) (fun b hb => hc b (List.mem_cons_of_mem _ hb)) o1 (by omega)
theorem tab_small {t : List PyData} (h : ∀ d ∈ t, d ∈ PL) : (PyData.list t).canLay0 = true ∧ strO (.list t) = true ∧ (PyData.list t).depth ≤ 6 := by
  refine ⟨(Bool.and_eq_true_iff.mp (small_PL h)).1, ?_, ?_⟩
  · unfold strO; exact strOs_all fun d hd => (PL_small (h d hd)).2.1
  · have : PyData.depthAll t ≤ 4 := depthAll_le fun d hd => (PL_small (h d hd)).2.2
    unfold PyData.depth
    omega
theorem tabs_small {F : List (List PyData)} (h : ∀ t ∈ F, ∀ d ∈ t, d ∈ PL) : smallD (.list (F.map .list)) = true := smallD_list (n := 6) (fun d hd => by
    obtain ⟨t, ht, rfl⟩ := List.mem_map.mp hd
    exact (tab_small (h t ht)).1) (fun d hd => by
    obtain ⟨t, ht, rfl⟩ := List.mem_map.mp hd
    exact (tab_small (h t ht)).2.2) (by omega)
theorem notin_tabs {t : List PyData} {F : List (List PyData)} (ht : ∀ d ∈ t, d ∈ PL) (h : ∀ t ∈ F, ∀ d ∈ t, d ∈ PL) : ∃ b, cmpD .NotIn (.list t) (.list (F.map .list)) = some (.bool b) ∧ (b = true ↔ t ∉ F) := by
  refine ⟨_, if_pos (by rw [small_PL ht, tabs_small h]; rfl), ?_⟩
  rw [Bool.not_eq_true', ← Bool.not_eq_true, List.any_eq_true]
  refine not_congr ⟨fun ⟨d, hd, e⟩ => ?_, fun m => ⟨.list t, List.mem_map.mpr ⟨t, m, rfl⟩, ?_⟩⟩
  · obtain ⟨u, hu, rfl⟩ := List.mem_map.mp hd
    have := (eqv_iff (tab_small (h u hu)).2.1 (tab_small (h u hu)).1).mp e
    cases this
    exact hu
  · exact (eqv_iff (tab_small ht).2.1 (tab_small ht).1).mpr rfl
theorem app_ok {F : List (List PyData)} {t : List PyData} (h : F.length ≤ 999) : listOp "append" (F.map .list) (.list t) = some ((F ++ [t]).map .list) := by
  show (if ("append" : Str) == "append" then (if (F.map PyData.list).length < top then some (F.map PyData.list ++ [.list t]) else none) else _) = _
  rw [if_pos (by rfl), if_pos (by rw [List.length_map]; have := le_top (n := F.length + 1) (by omega); omega), List.map_append]
  rfl
noncomputable abbrev LF (F : List (List PyData)) : List PyData := F.map .list
inductive OutS (F ps cs : List PyData) (ρ : Rho) : Prop
  | mk (c : ∀ os, nzPl plI (ρ.sets [("order", .list os)]) = plO os F ps cs) (e : nzPl (stAt fPl.body 2) ρ = pl3 F ps cs)
theorem out_0 : OutS F ps cs (pl3 F ps cs) := ⟨fun d => by kernel_rfl, by kernel_rfl⟩
theorem out_1 (os : List PyData) : OutS F ps cs (plO os F ps cs) := ⟨fun d => by kernel_rfl, by kernel_rfl⟩
theorem out_2 (d : PyData) : OutS F ps cs (plH d F ps cs) := ⟨fun d => by kernel_rfl, by kernel_rfl⟩
theorem out_3 (d : PyData) (F' : List PyData) : OutS F' ps cs ((plH d F ps cs).set "found" (.own F')) := ⟨fun d => by kernel_rfl, by kernel_rfl⟩
theorem nzI_id (os : List PyData) : nzPl plI (plO os F ps cs) = plO os F ps cs := by kernel_rfl
theorem nz0_id (os : List PyData) : nzPl (stAt plT 0) (plO os F ps cs) = plO os F ps cs := by kernel_rfl
theorem nzD_id (t : List PyData) : nzPl (stAt plT 2) (plD t F ps cs) = plD t F ps cs := by kernel_rfl
theorem nzH (d : PyData) (t : List PyData) : nzPl (stAt plT 3) ((plD t F ps cs).set "then" (.val d)) = nzPl (stAt plT 3) (plH d F ps cs) := by kernel_rfl
theorem nz2_id : nzPl (stAt fPl.body 2) (pl3 F ps cs) = pl3 F ps cs := by kernel_rfl
end
section
variable {fn : Tbl} {ps cs : List PyData} {F : List (List PyData)}
/-- one order -/
theorem pl_turn {l : List Cl} {ρ : Rho} (O : OutS (LF F) ps cs ρ) (hp : okPs ps = true) (hpl : ps.length ≤ 2) (hl : l.length ≤ 4) (hc : ∀ c ∈ l, c ∈ CL) (hF : ∀ t ∈ F, ∀ d ∈ t, d ∈ PL) (hn : F.length ≤ 999) :
    ∃ ρ' F', XPl fn 9 plF.2 (ρ.sets [("order", .list (l.map clD))]) = some (.next, ρ') ∧ OutS (LF F') ps cs ρ' ∧ ((l.length ≠ 4 ∧ F' = F) ∨ (l.length = 4 ∧ okPs (runD l ps) = true ∧ ((runD l ps ∈ F ∧ F' = F) ∨ (runD l ps ∉ F ∧ F' = F ++ [runD l ps])))) := by
  have e0 : SPl fn 8 plI (ρ.sets [("order", .list (l.map clD))]) = SPl fn 8 plI (plO (l.map clD) (LF F) ps cs) := SPl_nz ((O.1 _).trans (nzI_id _).symm)
  have fin : ∀ {fl ρ'}, SPl fn 8 plI (plO (l.map clD) (LF F) ps cs) = some (.next, ρ') → XPl fn 9 plF.2 (ρ.sets [("order", .list (l.map clD))]) = some (.next, fl) → True := fun _ _ => trivial
  clear fin
  have fin : ∀ {ρ'}, SPl fn 8 plI (plO (l.map clD) (LF F) ps cs) = some (.next, ρ') → XPl fn 9 plF.2 (ρ.sets [("order", .list (l.map clD))]) = some (.next, ρ') := fun h => by
    rw [pl_f]
    show exLS _ _ _ _ _ _ [plI] _ = _
    rw [exLS_next (e0.trans h)]
    rfl
  have i0 := pl_i fn (LF F) ps cs (l.map clD)
  have hlen : lenD (.list (l.map clD)) = some (.int (l.length : Int)) := by
    refine (if_pos (by rw [List.length_map]; exact le_top (by omega))).trans ?_
    rw [List.length_map]
  have h4 := of_map_eq (of_map_eq eq_int l.length (List.mem_range.mpr (by omega))) 4 (by decide)
  rw [hlen, Option.bind_some] at i0
  replace i0 : _ = ((cmpD .Eq (.int l.length) (.int (4 : Nat))).bind fun d => (truthD d).map PyData.bool).bind _ := i0
  rw [h4, Option.bind_some] at i0
  by_cases c : l.length = 4
  · rw [show (l.length == 4) = true from beq_iff_eq.mpr c] at i0
    replace i0 : _ = exLS (Rf fn 40) ["found"] fPl.scope HSp nzPl (XPl fn 7) plT (plO (l.map clD) (LF F) ps cs) := i0
    have t0 := pl_t0 fn (LF F) ps cs (l.map clD)
    rw [mkList_ok (by omega), Option.bind_some] at t0
    replace t0 : _ = if okPs ps = true then some (Fl.next, plT' ps (l.map clD) (LF F) ps cs) else none := t0
    replace t0 := t0.trans (if_pos hp)
    obtain ⟨ρ1, f1, I1, k1⟩ := pl_inner (fn := fn) (F := LF F) (ps := ps) (cs := cs) l ps _ (in_0 ps (l.map clD)) hc hp (by omega)
    have t1 := (pl_t1 fn (LF F) ps cs ps (l.map clD)).trans f1
    have t2 := pl_t2 fn (LF F) ps cs (runD l ps)
    have r1 : rd1 "items" (runD l ps) [] = some (.list (runD l ps)) := by
      show (if (("items" : Str) == "items") && okPs (runD l ps) then _ else _) = _
      rw [k1, if_pos (by rfl)]
    rw [r1] at t2
    replace t2 : _ = some (Fl.next, (plD (runD l ps) (LF F) ps cs).set "then" (.val (.list (runD l ps)))) := t2
    have t3 := pl_t3 fn (.list (runD l ps)) (LF F) ps cs
    obtain ⟨b, hb, hb2⟩ := notin_tabs (okPs_PL k1) hF
    rw [hb, bool_tr, Option.bind_some] at t3
    rw [pl_t, exLS_next (SPl_hs t0), exLS_next t1, exLS_next ((SPl_nz (I1.2.trans (nzD_id _).symm)).trans t2)] at i0
    have n3 := SPl_nz (fn := fn) (n := 7) (nzH (F := LF F) (ps := ps) (cs := cs) (.list (runD l ps)) (runD l ps))
    cases b with
    | true =>
      replace t3 : _ = exLS (Rf fn 40) ["found"] fPl.scope HSp nzPl (XPl fn 6) plA (plH (.list (runD l ps)) (LF F) ps cs) := t3
      have a0 := pl_a0 fn (.list (runD l ps)) (LF F) ps cs
      rw [app_ok hn, Option.bind_some] at a0
      rw [pl_a, exLS_next a0] at t3
      replace t3 := n3.trans t3
      rw [exLS_next t3] at i0
      exact ⟨_, F ++ [runD l ps], fin i0, out_3 _ _, .inr ⟨c, k1, .inr ⟨hb2.mp rfl, rfl⟩⟩⟩
    | false =>
      replace t3 : _ = XPl fn 7 (elseOf (stAt plT 3)) (plH (.list (runD l ps)) (LF F) ps cs) := t3
      rw [pl_e.2] at t3
      replace t3 : _ = some (Fl.next, plH (.list (runD l ps)) (LF F) ps cs) := n3.trans t3
      rw [exLS_next t3] at i0
      exact ⟨_, F, fin i0, out_2 _, .inr ⟨c, k1, .inl ⟨Classical.byContradiction fun z => Bool.false_ne_true (hb2.mpr z), rfl⟩⟩⟩
  · rw [show (l.length == 4) = false from beq_eq_false_iff_ne.mpr c] at i0
    replace i0 : _ = XPl fn 8 (elseOf plI) (plO (l.map clD) (LF F) ps cs) := i0
    rw [pl_e.1] at i0
    exact ⟨_, F, fin i0, out_1 _, .inl ⟨c, rfl⟩⟩
theorem pl_loop (hp : okPs ps = true) (hpl : ps.length ≤ 2) : ∀ (rows : List (List Cl)) (F : List (List PyData)) (ρ : Rho), OutS (LF F) ps cs ρ → (∀ l ∈ rows, l.length ≤ 4 ∧ ∀ c ∈ l, c ∈ CL) → (∀ t ∈ F, okPs t = true) → F.Nodup → F.length + rows.length ≤ 999 →
    ∃ ρ' F', forL fPl.scope (XPl fn 9 plF.2) plF.1 (rows.map fun l => .list (l.map clD)) ρ = some (.next, ρ') ∧ OutS (LF F') ps cs ρ' ∧ (∀ t ∈ F', okPs t = true) ∧ F'.Nodup ∧ F'.length ≤ F.length + (rows.filter fun l => l.length == 4).length ∧ ∀ t, t ∈ F' ↔ t ∈ F ∨ ∃ l ∈ rows, l.length = 4 ∧ t = runD l ps
  | [], F, ρ, O, _, hF, hN, _ => ⟨ρ, F, rfl, O, hF, hN, Nat.le_refl _, fun t => ⟨.inl, fun h => h.elim id fun ⟨_, h, _⟩ => nomatch h⟩⟩
  | l :: rows, F, ρ, O, hr, hF, hN, hn => by
    rw [List.length_cons] at hn
    obtain ⟨l4, lc⟩ := hr l List.mem_cons_self
    obtain ⟨ρ1, F1, e1, O1, h1⟩ := pl_turn (fn := fn) O hp hpl l4 lc (fun t ht => okPs_PL (hF t ht)) (by omega)
    rw [List.map_cons, forL_next (pl_ob _) (pl_oo _) e1]
    have key : (∀ t ∈ F1, okPs t = true) ∧ F1.Nodup ∧ F1.length ≤ F.length + (if l.length = 4 then 1 else 0) ∧ ∀ t, t ∈ F1 ↔ t ∈ F ∨ (l.length = 4 ∧ t = runD l ps) := by
      rcases h1 with ⟨c, rfl⟩ | ⟨c, k1, ⟨m, rfl⟩ | ⟨m, rfl⟩⟩
      · exact ⟨hF, hN, Nat.le_add_right _ _, fun t => ⟨.inl, fun z => z.elim id fun y => absurd y.1 c⟩⟩
      · exact ⟨hF, hN, Nat.le_add_right _ _, fun t => ⟨.inl, fun z => z.elim id fun y => y.2 ▸ m⟩⟩
      · refine ⟨fun t ht => ?_, ?_, ?_, fun t => ?_⟩
        · rcases List.mem_append.mp ht with h | h
          · exact hF t h
          · rw [List.mem_singleton.mp h]; exact k1
        · refine List.nodup_append.mpr ⟨hN, by simp, ?_⟩
          intro a ha b hb z
          rw [List.mem_singleton.mp hb] at z
          exact m (z ▸ ha)
        · rw [if_pos c, List.length_append]; exact Nat.le_refl _
        · rw [List.mem_append, List.mem_singleton]
          exact ⟨fun z => z.imp id fun y => ⟨c, y⟩, fun z => z.imp id fun y => y.2⟩
    obtain ⟨k1, k2, k3, k4⟩ := key
    have k3' : F1.length ≤ F.length + 1 := by split at k3 <;> omega
    obtain ⟨ρ2, F2, e2, O2, g1, g2, g3, g4⟩ := pl_loop hp hpl rows F1 ρ1 O1 (fun l' h' => hr l' (List.mem_cons_of_mem _ h')) k1 k2 (by omega)
    refine ⟨ρ2, F2, e2, O2, g1, g2, ?_, fun t => ?_⟩
    · rw [List.filter_cons]
      by_cases c : l.length = 4
      · rw [if_pos c] at k3
        rw [if_pos (beq_iff_eq.mpr c), List.length_cons]; omega
      · rw [if_neg c] at k3
        rw [if_neg (fun z => c (beq_iff_eq.mp z))]; omega
    · rw [g4, k4]
      constructor
      · rintro ((h | ⟨c, h⟩) | ⟨l', h, c⟩)
        · exact .inl h
        · exact .inr ⟨l, List.mem_cons_self, c, h⟩
        · exact .inr ⟨l', List.mem_cons_of_mem _ h, c⟩
      · rintro (h | ⟨l', h, c, e⟩)
        · exact .inl (.inl h)
        · rcases List.mem_cons.mp h with rfl | h
          · exact .inl (.inr ⟨c, e⟩)
          · exact .inr ⟨l', h, c, e⟩
theorem pickG_sub {X : Type} (z : X) : ∀ (m : Nat) (ds : List X), ∀ r ∈ pickG z m ds, r.length ≤ m ∧ ∀ x ∈ r, x ∈ ds
  | 0, _, r, h => by rw [List.mem_singleton.mp h]; exact ⟨Nat.le_refl _, fun _ h => nomatch h⟩
  | m + 1, ds, r, h => by
    unfold pickG at h
    rcases List.mem_cons.mp h with rfl | h
    · exact ⟨Nat.zero_le _, fun _ h => nomatch h⟩
    · obtain ⟨k, hk, h⟩ := List.mem_flatMap.mp h
      obtain ⟨r', h', rfl⟩ := List.mem_map.mp h
      have hk := List.mem_range.mp hk
      obtain ⟨i1, i2⟩ := pickG_sub z m _ r' h'
      refine ⟨Nat.succ_le_succ i1, fun x hx => ?_⟩
      rcases List.mem_cons.mp hx with rfl | hx
      · rw [List.getD_eq_getElem?_getD, List.getElem?_eq_getElem hk]
        exact List.getElem_mem hk
      · exact List.mem_of_mem_eraseIdx (i2 x hx)
theorem picks_four (a b c d : Cl) : ((pickG zC 4 [a, b, c, d]).filter fun l => l.length == 4).length = 24 := by kernel_rfl
theorem pl_run {calls : List Cl} (hf : ∀ a, fn "_law_picks" a = FP 5 "_law_picks" a) (hp : okPs ps = true) (hpl : ps.length ≤ 2) (hl : calls.length = 4) (hc : ∀ c ∈ calls, c ∈ CL) :
    ∃ R : List (List PyData), runB (XPl fn 10 fPl.body) ["pairs", "calls"] [.list ps, .list (calls.map clD)] = some (.list (LF R)) ∧ R.Nodup ∧ R.length ≤ 24 ∧ (∀ t ∈ R, okPs t = true) ∧ ∀ t, t ∈ R ↔ ∃ l ∈ pickG zC 4 calls, l.length = 4 ∧ t = runD l ps := by
  have e1 := pl_1 fn [] ps (calls.map clD)
  rw [hf, pi_run 4 (by omega) (calls.map clD) (by rw [List.length_map]; omega), Option.bind_some] at e1
  replace e1 : _ = forL fPl.scope (XPl fn 9 plF.2) plF.1 ((pickN 4 (calls.map clD)).map .list) (pl3 [] ps (calls.map clD)) := e1
  have hlen : (pickG zC 4 calls).length ≤ 65 := by
    have := congrArg List.length (picks_calls calls)
    rw [List.length_map, List.length_map] at this
    rw [← this]
    exact pickN_len 4 _ (by rw [List.length_map]; omega)
  rw [picks_calls] at e1
  obtain ⟨ρ2, R, e2, O2, g1, g2, g3, g4⟩ := pl_loop (fn := fn) (ps := ps) (cs := calls.map clD) hp hpl (pickG zC 4 calls) [] _ out_0 (fun l h => ⟨(pickG_sub zC 4 calls l h).1, fun c hcl => hc c ((pickG_sub zC 4 calls l h).2 c hcl)⟩) (fun _ h => nomatch h) List.nodup_nil (by show 0 + _ ≤ _; omega)
  refine ⟨R, ?_, g2, ?_, g1, fun t => (g4 t).trans ⟨fun h => h.elim (fun h => nomatch h) id, .inr⟩⟩
  · refine (if_pos rfl).trans ?_
    have e3 : XPl fn 10 fPl.body (rho0 ["pairs", "calls"] [.list ps, .list (calls.map clD)]) = some (.ret (.list (LF R)), freeze (pl3 (LF R) ps (calls.map clD))) := by
      show exLS _ _ _ _ _ _ fPl.body _ = _
      rw [pl_body, exLS_next (pl_0 fn ps (calls.map clD)), exLS_next (e1.trans e2), exLS_ret ((SPl_nz (O2.2.trans nz2_id.symm)).trans (pl_2 fn (LF R) ps (calls.map clD)))]
    rw [e3]
  · obtain ⟨a, b, c, d, rfl⟩ : ∃ a b c d, calls = [a, b, c, d] := by
      rcases calls with _ | ⟨a, _ | ⟨b, _ | ⟨c, _ | ⟨d, _ | ⟨e, r⟩⟩⟩⟩⟩
      · cases hl
      · cases hl
      · cases hl
      · cases hl
      · exact ⟨a, b, c, d, rfl⟩
      · cases hl
    rw [picks_four] at g3
    exact Nat.le_trans g3 (by show 0 + 24 ≤ 24; omega)
end
end Mine

namespace Mine
open PySem PySem.Calls PySem.Spec PyProof.Rows PySem.W PySem.SeqAt

/-! _law_told -/
noncomputable def FT (f : Str) (args : List PyData) : Option PyData :=
  if f == ("_law_rows" : Str) then runF (Rf (FP 5) 40) HS ["rows"] 10 ["stood", "calls"] fRo.body fRo.scope args
  else FS 6 f args
noncomputable abbrev fTo := topFn pw "_law_told"
noncomputable abbrev goLC := lcOf (rhsOf (stAt fTo.body 0))
noncomputable abbrev heLC := lcOf (rhsOf (stAt fTo.body 1))
noncomputable abbrev toL := forOf (stAt fTo.body 3)
noncomputable def cmpL : Expr → Expr
  | .Compare a _ _ _ => a
  | e => e
noncomputable def arg1' : Expr → Expr
  | .Call _ (_ :: a :: _) _ _ => a
  | e => e
noncomputable abbrev stLC := lcOf (cmpL (rhsOf (stAt toL.2 0)))
noncomputable abbrev caLC := lcOf (arg1' (arg0 (rhsOf (stAt toL.2 1))))
noncomputable abbrev toM := forOf (stAt fTo.body 5)
noncomputable abbrev toN := forOf (stAt toM.2 0)
noncomputable abbrev toO := forOf (stAt toN.2 0)
noncomputable abbrev toI := stAt toO.2 0
noncomputable abbrev toP := stAt (thenOf toI) 0
noncomputable abbrev Wt : List Str := ["told", "rows", "head"]
noncomputable abbrev Wl : List Str := ["rows", "head", "pairs", "calls"]
noncomputable def nzT : Stmt → Rho → Rho := nzS [
  (nzS.lineOf (stAt fTo.body 1), ["gone", "pairs", "calls"]), (nzS.lineOf (stAt fTo.body 2), ["head", "pairs", "calls"]), (nzS.lineOf (stAt fTo.body 3), Wl), (nzS.lineOf (stAt toL.2 0), "letter" :: Wl), (nzS.lineOf (stAt toL.2 1), "stood" :: "letter" :: Wl), (nzS.lineOf (stAt fTo.body 4), ["rows", "head"]), (nzS.lineOf (stAt fTo.body 5), Wt),
  (nzS.lineOf (stAt toM.2 0), "left" :: Wt), (nzS.lineOf (stAt toN.2 0), "right" :: "left" :: Wt), (nzS.lineOf toI, "row" :: "left" :: Wt), (nzS.lineOf toP, "row" :: "left" :: Wt), (nzS.lineOf (stAt fTo.body 6), ["told"])]
theorem to_body : fTo.body = [stAt fTo.body 0, stAt fTo.body 1, stAt fTo.body 2, stAt fTo.body 3, stAt fTo.body 4, stAt fTo.body 5, stAt fTo.body 6] := by kernel_rfl
theorem to_l : toL.2 = [stAt toL.2 0, stAt toL.2 1] := by kernel_rfl
theorem to_m : toM.2 = [stAt toM.2 0] := by kernel_rfl
theorem to_n : toN.2 = [stAt toN.2 0] := by kernel_rfl
theorem to_o : toO.2 = [toI] := by kernel_rfl
theorem to_i : thenOf toI = [toP] := by kernel_rfl
theorem to_e : elseOf toI = [] := by kernel_rfl
theorem go_lc : goLC.2.1 = [gAt goLC.2.1] := by kernel_rfl
theorem he_lc : heLC.2.1 = [gAt heLC.2.1] := by kernel_rfl
theorem st_lc : stLC.2.1 = [gAt stLC.2.1] := by kernel_rfl
theorem ca_lc : caLC.2.1 = [gAt caLC.2.1] := by kernel_rfl
noncomputable def goneK (c : Cl) : Option PyData := if c.1 < 2 then some (.str (Txt.lower c.2.1)) else none
noncomputable def lowC (l : Str) (c : Cl) : Option PyData := if Txt.lower c.2.1 == l then some (clD c) else none
noncomputable def lowP (l : Str) (d : PyData) : Option PyData := if lowK d == l then some d else none
noncomputable def ABl : List Str := ["a", "b"]
section
variable (fn : Tbl)
noncomputable abbrev XT (n : Nat) := exsS (Rf fn 40) ["rows", "told"] fTo.scope HS nzT n
noncomputable abbrev ST (n : Nat) (st : Stmt) (ρ : Rho) := exSt (Rf fn 40) ["rows", "told"] fTo.scope HS nzT (XT fn n) st ρ
theorem go_i : CL.map (fun c => evG1 (Rf fn 39) goLC.2.2 (relabelS goLC.2.2 fTo.scope) goLC.1 (gAt goLC.2.1) [] (clD c)) = CL.map fun c => some (goneK c) := by kernel_rfl
theorem he_i (G : List PyData) : PL.map (fun d => evG1 (Rf fn 39) heLC.2.2 (relabelS heLC.2.2 fTo.scope) heLC.1 (gAt heLC.2.1) [("gone", .val (.list G))] d) = PL.map fun d => (((cmpD .NotIn (.str (lowK d)) (.list G)).bind fun d => (truthD d).map PyData.bool).bind truthD).bind fun t => if t then (some d).map some else some none := by kernel_rfl
theorem st_i : ABl.map (fun l => PL.map fun d => evG1 (Rf fn 38) stLC.2.2 (relabelS stLC.2.2 fTo.scope) stLC.1 (gAt stLC.2.1) [("letter", .val (.str l))] d) = ABl.map fun l => PL.map fun d => some (lowP l d) := by kernel_rfl
theorem ca_i : ABl.map (fun l => CL.map fun c => evG1 (Rf fn 38) caLC.2.2 (relabelS caLC.2.2 fTo.scope) caLC.1 (gAt caLC.2.1) [("letter", .val (.str l))] (clD c)) = ABl.map fun l => CL.map fun c => some (lowC l c) := by kernel_rfl
variable (l : Str) (b : Bool) (ps cs G H R T : List PyData) (u v w : PyData)
noncomputable def tl0 (ps cs : List PyData) : Rho := [("pairs", .val (.list ps)), ("calls", .val (.list cs))]
noncomputable def tl1 (G ps cs : List PyData) : Rho := ("gone", .val (.list G)) :: tl0 ps cs
noncomputable def tl2 (H ps cs : List PyData) : Rho := ("head", .val (.list H)) :: tl0 ps cs
noncomputable def tlW (R H ps cs : List PyData) : Rho := ("rows", .own R) :: tl2 H ps cs
noncomputable def tlL (l : Str) (R H ps cs : List PyData) : Rho := ("letter", .val (.str l)) :: tlW R H ps cs
noncomputable def tlS (b : Bool) (l : Str) (R H ps cs : List PyData) : Rho := ("stood", .val (.bool b)) :: tlL l R H ps cs
theorem to_0 : ST fn 9 (stAt fTo.body 0) (tl0 ps cs) = ((evG (Rf fn 39) goLC.2.2 (relabelS goLC.2.2 fTo.scope) goLC.1 goLC.2.1 [] (some cs)).bind mkList).bind fun d => some (.next, (tl0 ps cs).set "gone" (.val d)) := by kernel_rfl
theorem to_1 : ST fn 9 (stAt fTo.body 1) (tl1 G ps cs) = ((evG (Rf fn 39) heLC.2.2 (relabelS heLC.2.2 fTo.scope) heLC.1 heLC.2.1 [("gone", .val (.list G))] (some ps)).bind mkList).bind fun d => some (.next, (tl1 G ps cs).set "head" (.val d)) := by kernel_rfl
theorem to_2 : ST fn 9 (stAt fTo.body 2) ((tl1 G ps cs).set "head" (.val (.list H))) = some (.next, tlW [] H ps cs) := by kernel_rfl
theorem to_3 : ST fn 9 (stAt fTo.body 3) (tlW R H ps cs) = forL fTo.scope (XT fn 9 toL.2) toL.1 [.str "a", .str "b"] (tlW R H ps cs) := by kernel_rfl
theorem to_l0 : ST fn 8 (stAt toL.2 0) (tlL l R H ps cs) = (((evG (Rf fn 38) stLC.2.2 (relabelS stLC.2.2 fTo.scope) stLC.1 stLC.2.1 [("letter", .val (.str l))] (some ps)).bind mkList).bind fun x => cmpD .NotEq x (.list [])).bind fun d => some (.next, (tlL l R H ps cs).set "stood" (.val d)) := by kernel_rfl
theorem to_l1 : ST fn 8 (stAt toL.2 1) (tlS b l R H ps cs) = (((((evG (Rf fn 38) caLC.2.2 (relabelS caLC.2.2 fTo.scope) caLC.1 caLC.2.1 [("letter", .val (.str l))] (some cs)).bind mkList).bind fun y => some [y]).bind fun ds => some (.bool b :: ds)).bind (fn "_law_rows")).bind fun d => (listOp "append" R d).bind fun R' => some (.next, (tlS b l R H ps cs).set "rows" (.own R')) := by kernel_rfl
noncomputable def tt (T R H : List PyData) : Rho := [("told", .own T), ("rows", .own R), ("head", .val (.list H))]
noncomputable def tL (u : PyData) (T R H : List PyData) : Rho := ("left", .val u) :: tt T R H
noncomputable def tR (v u : PyData) (T R H : List PyData) : Rho := ("right", .val v) :: tL u T R H
noncomputable def tO (w u : PyData) (T R H : List PyData) : Rho := ("row", .val w) :: tL u T R H
theorem to_4 : ST fn 9 (stAt fTo.body 4) (tlS b l R H ps cs) = some (.next, tt [] R H) := by kernel_rfl
theorem to_5 : ST fn 9 (stAt fTo.body 5) (tt T R H) = ((idxD (.list R) (.int 0)).bind listOf).bind fun items => forL fTo.scope (XT fn 9 toM.2) toM.1 items (tt T R H) := by kernel_rfl
theorem to_m0 : ST fn 8 (stAt toM.2 0) (tL u T R H) = ((idxD (.list R) (.int 1)).bind listOf).bind fun items => forL fTo.scope (XT fn 8 toN.2) toN.1 items (tL u T R H) := by kernel_rfl
theorem to_n0 : ST fn 7 (stAt toN.2 0) (tR v u T R H) = ((fn "_law_shuffles" [u, v]).bind listOf).bind fun items => forL fTo.scope (XT fn 7 toO.2) toO.1 items (tR v u T R H) := by kernel_rfl
theorem to_o0 : ST fn 6 toI (tO w u T R H) = ((addD (.list H) w).bind fun x => (cmpD .NotIn x (.list T)).bind fun d => (truthD d).map PyData.bool).bind (ifB (XT fn 6) toI (tO w u T R H)) := by kernel_rfl
theorem to_p0 : ST fn 5 toP (tO w u T R H) = (addD (.list H) w).bind fun d => (listOp "append" T d).bind fun T' => some (.next, (tO w u T R H).set "told" (.own T')) := by kernel_rfl
theorem to_6 : ST fn 9 (stAt fTo.body 6) (tt T R H) = some (.ret (.list T), freeze [("told", .own T)]) := by kernel_rfl
end
end Mine

namespace Mine
open PySem PySem.Calls PySem.Spec PyProof.Rows PySem.W PySem.SeqAt

/-! picks, as sub-permutations -/
noncomputable def SubP {X : Type} (r l : List X) : Prop := ∃ rest, (r ++ rest).Perm l
theorem SubP.len {X : Type} {r l : List X} (h : SubP r l) : r.length ≤ l.length := by
  obtain ⟨rest, p⟩ := h
  rw [← p.length_eq, List.length_append]
  exact Nat.le_add_right _ _
theorem SubP.sub {X : Type} {r l : List X} (h : SubP r l) : ∀ x ∈ r, x ∈ l := fun x hx => by
  obtain ⟨rest, p⟩ := h
  exact p.mem_iff.mp (List.mem_append_left _ hx)
theorem SubP.whole {X : Type} {r l : List X} : (SubP r l ∧ r.length = l.length) ↔ r.Perm l := by
  constructor
  · rintro ⟨⟨rest, p⟩, e⟩
    have := p.length_eq
    rw [List.length_append] at this
    have : rest = [] := List.eq_nil_of_length_eq_zero (by omega)
    subst this
    rw [List.append_nil] at p
    exact p
  · intro p
    exact ⟨⟨[], by rw [List.append_nil]; exact p⟩, p.length_eq⟩
theorem erase_perm {X : Type} : ∀ (l : List X) (k : Nat) (h : k < l.length), (l[k] :: l.eraseIdx k).Perm l
  | [], _, h => absurd h (Nat.not_lt_zero _)
  | _ :: _, 0, _ => List.Perm.refl _
  | a :: l, k + 1, h => (List.Perm.swap _ _ _).trans ((erase_perm l k (Nat.lt_of_succ_lt_succ h)).cons a)
theorem pickG_iff {X : Type} (z : X) : ∀ (m : Nat) (ds : List X), ds.length ≤ m → ∀ r, r ∈ pickG z m ds ↔ SubP r ds
  | 0, ds, h, r => by
    have : ds = [] := List.eq_nil_of_length_eq_zero (by omega)
    subst this
    unfold pickG
    rw [List.mem_singleton]
    exact ⟨fun e => by subst e; exact ⟨[], List.Perm.refl _⟩, fun h => List.eq_nil_of_length_eq_zero (Nat.le_zero.mp h.len)⟩
  | m + 1, ds, h, r => by
    unfold pickG
    rw [List.mem_cons]
    constructor
    · rintro (rfl | h1)
      · exact ⟨ds, List.Perm.refl _⟩
      · obtain ⟨k, hk, h2⟩ := List.mem_flatMap.mp h1
        have hk := List.mem_range.mp hk
        obtain ⟨r', h3, rfl⟩ := List.mem_map.mp h2
        obtain ⟨rest, p⟩ := (pickG_iff z m _ (by rw [List.length_eraseIdx_of_lt hk]; omega) r').mp h3
        refine ⟨rest, ?_⟩
        rw [List.getD_eq_getElem?_getD, List.getElem?_eq_getElem hk]
        exact (p.cons _).trans (erase_perm ds k hk)
    · rintro ⟨rest, p⟩
      cases r with
      | nil => exact .inl rfl
      | cons x r' =>
        refine .inr ?_
        obtain ⟨k, hk, e⟩ := List.getElem_of_mem (p.mem_iff.mp List.mem_cons_self)
        refine List.mem_flatMap.mpr ⟨k, List.mem_range.mpr hk, List.mem_map.mpr ⟨r', ?_, ?_⟩⟩
        · refine (pickG_iff z m _ (by rw [List.length_eraseIdx_of_lt hk]; omega) r').mpr ⟨rest, ?_⟩
          have q := p.trans (erase_perm ds k hk).symm
          rw [e] at q
          exact q.cons_inv
        · rw [List.getD_eq_getElem?_getD, List.getElem?_eq_getElem hk, e]
          rfl
/-! a letter's rows -/
noncomputable def RowOf {X : Type} (stood : Prop) (S A O : List X) (del : Prop) (row : List X) : Prop :=
  (S = [] ∧ ¬del ∧ ((stood ∨ O = []) ∧ row.Perm A ∨ ¬(stood ∨ O = []) ∧ ((∃ x ∈ O, ∃ r, r.Perm A ∧ row = x :: r) ∨ (A ≠ [] ∧ row.Perm A)))) ∨
  (¬(S = [] ∧ ¬del) ∧ ((∃ s ∈ S, ∃ r, SubP r A ∧ row = s :: r) ∨ (del ∧ (SubP row A ∨ ∃ x ∈ O, ∃ r, SubP r A ∧ row = x :: r))))
theorem mem_ahead {xs : List PyData} {rows : List (List PyData)} {row : List PyData} : row ∈ aheadN xs rows ↔ ∃ x ∈ xs, ∃ r, r ∈ rows ∧ row = x :: r := by
  unfold aheadN
  rw [List.mem_flatMap]
  constructor
  · rintro ⟨x, hx, h⟩
    obtain ⟨r, hr, rfl⟩ := List.mem_map.mp h
    exact ⟨x, hx, r, hr, rfl⟩
  · rintro ⟨x, hx, r, hr, rfl⟩
    exact ⟨x, hx, List.mem_map.mpr ⟨r, hr, rfl⟩⟩
theorem rowsN_iff {b : Bool} {cs : List Cl} (hl : cs.length ≤ 4) (row : List PyData) : row ∈ rowsN b cs ↔ RowOf (b = true) (cs.filterMap (pickK 0)) (cs.filterMap (pickK 2)) (cs.filterMap (pickK 3)) (cs.filterMap (nameK 1) ≠ []) row := by
  have hA : (cs.filterMap (pickK 2)).length ≤ 4 := Nat.le_trans (List.length_filterMap_le _ _) hl
  unfold rowsN RowOf
  generalize cs.filterMap (pickK 0) = S
  generalize cs.filterMap (pickK 2) = A at *
  generalize cs.filterMap (pickK 3) = O
  generalize cs.filterMap (nameK 1) = D
  have pP : ∀ r, r ∈ pickN 4 A ↔ SubP r A := by rw [pickN_G]; exact pickG_iff .none 4 A hA
  have pW : ∀ r, (r ∈ (pickN 4 A).filter fun r => r.length == A.length) ↔ r.Perm A := fun r => by
    rw [List.mem_filter, pP, beq_iff_eq, SubP.whole]
  dsimp only
  by_cases c : S = [] ∧ ¬D ≠ []
  · obtain ⟨rfl, c2⟩ := c
    have c2 : D = [] := Classical.byContradiction c2
    subst c2
    rw [if_pos (by rfl)]
    by_cases g : b = true ∨ O = []
    · rw [if_pos (by rcases g with rfl | rfl <;> simp), pW]
      exact ⟨fun h => .inl ⟨rfl, fun z => z rfl, .inl ⟨g, h⟩⟩, fun h => by
        rcases h with ⟨_, _, ⟨_, h⟩ | ⟨g', _⟩⟩ | ⟨z, _⟩
        · exact h
        · exact absurd g g'
        · exact absurd ⟨rfl, fun z => z rfl⟩ z⟩
    · have g1 : b = false := Bool.eq_false_iff.mpr fun z => g (.inl z)
      have g2 : O.isEmpty = false := by cases O with | nil => exact absurd (.inr rfl) g | cons => rfl
      rw [if_neg (by rw [g1, g2]; decide), List.mem_append, mem_ahead]
      have tail : (row ∈ if A.isEmpty = true then [] else (pickN 4 A).filter fun r => r.length == A.length) ↔ A ≠ [] ∧ row.Perm A := by
        cases A with
        | nil => exact ⟨(fun h => nomatch h), fun h => absurd rfl h.1⟩
        | cons x A => exact (pW row).trans ⟨fun h => ⟨List.cons_ne_nil _ _, h⟩, fun h => h.2⟩
      rw [tail]
      constructor
      · rintro (⟨x, hx, r, hr, e⟩ | h)
        · exact .inl ⟨rfl, fun z => z rfl, .inr ⟨g, .inl ⟨x, hx, r, (pW r).mp hr, e⟩⟩⟩
        · exact .inl ⟨rfl, fun z => z rfl, .inr ⟨g, .inr h⟩⟩
      · rintro (⟨_, _, ⟨g', _⟩ | ⟨_, ⟨x, hx, r, hr, e⟩ | h⟩⟩ | ⟨z, _⟩)
        · exact absurd g' g
        · exact .inl ⟨x, hx, r, (pW r).mpr hr, e⟩
        · exact .inr h
        · exact absurd ⟨rfl, fun z => z rfl⟩ z
  · rw [if_neg (fun z => by
      rw [Bool.and_eq_true, List.isEmpty_iff, List.isEmpty_iff] at z
      exact c ⟨z.1, fun y => y z.2⟩), List.mem_append, mem_ahead]
    have tail : (row ∈ if D.isEmpty = true then [] else pickN 4 A ++ aheadN O (pickN 4 A)) ↔ D ≠ [] ∧ (SubP row A ∨ ∃ x ∈ O, ∃ r, SubP r A ∧ row = x :: r) := by
      cases D with
      | nil => rw [if_pos (by rfl)]; exact ⟨(fun h => nomatch h), fun h => absurd rfl h.1⟩
      | cons x D =>
        show (row ∈ pickN 4 A ++ aheadN O (pickN 4 A)) ↔ _
        rw [List.mem_append, pP, mem_ahead]
        simp only [pP]
        exact ⟨fun h => ⟨List.cons_ne_nil _ _, h⟩, fun h => h.2⟩
    rw [tail]
    simp only [pP]
    exact ⟨fun h => .inr ⟨c, h⟩, fun h => by
      rcases h with ⟨a, b, _⟩ | ⟨_, h⟩
      · exact absurd ⟨a, b⟩ c
      · exact h⟩
theorem kinds_len : ∀ (cs : List Cl), (cs.filterMap (pickK 0)).length + (cs.filterMap (pickK 2)).length + (cs.filterMap (pickK 3)).length ≤ cs.length
  | [] => Nat.le_refl _
  | c :: cs => by
    have ih := kinds_len cs
    rw [List.length_cons]
    have one : ∀ k, ((c :: cs).filterMap (pickK k)).length = (cs.filterMap (pickK k)).length + if c.1 = k then 1 else 0 := fun k => by
      by_cases h : c.1 = k
      · rw [List.filterMap_cons_some (f := pickK k) (b := pr c.2.1 c.2.2) (if_pos h), List.length_cons, if_pos h]
      · rw [List.filterMap_cons_none (f := pickK k) (if_neg h), if_neg h]; rfl
    have w : (if c.1 = 0 then 1 else 0) + (if c.1 = 2 then 1 else 0) + (if c.1 = 3 then 1 else 0) ≤ 1 := by
      by_cases h0 : c.1 = 0
      · rw [h0]; decide
      · rw [if_neg h0]
        by_cases h2 : c.1 = 2
        · rw [h2]; decide
        · rw [if_neg h2]
          by_cases h3 : c.1 = 3
          · rw [h3]; decide
          · rw [if_neg h3]; decide
    rw [one, one, one]
    generalize (if c.1 = 0 then 1 else 0) = x at *
    generalize (if c.1 = 2 then 1 else 0) = y at *
    generalize (if c.1 = 3 then 1 else 0) = z at *
    clear one
    omega
theorem RowOf.facts {X : Type} {st del : Prop} {S A O row : List X} (h : RowOf st S A O del row) : row.length ≤ S.length + A.length + O.length ∧ ∀ x ∈ row, x ∈ S ∨ x ∈ A ∨ x ∈ O := by
  have cons : ∀ (Y : List X), (Y = S ∨ Y = O) → ∀ x ∈ Y, ∀ r, SubP r A → row = x :: r → row.length ≤ S.length + A.length + O.length ∧ ∀ x ∈ row, x ∈ S ∨ x ∈ A ∨ x ∈ O := fun Y hY x hx r hr e => by
    have l1 : 1 ≤ Y.length := List.length_pos_of_mem hx
    have l2 := hr.len
    rw [e, List.length_cons]
    refine ⟨by rcases hY with rfl | rfl <;> omega, fun y hy => ?_⟩
    rcases List.mem_cons.mp hy with rfl | hy
    · rcases hY with rfl | rfl
      · exact .inl hx
      · exact .inr (.inr hx)
    · exact .inr (.inl (hr.sub y hy))
  have only : SubP row A → row.length ≤ S.length + A.length + O.length ∧ ∀ x ∈ row, x ∈ S ∨ x ∈ A ∨ x ∈ O := fun hr => by
    have := hr.len
    exact ⟨by omega, fun y hy => .inr (.inl (hr.sub y hy))⟩
  rcases h with ⟨_, _, ⟨_, h⟩ | ⟨_, ⟨x, hx, r, hr, e⟩ | ⟨_, h⟩⟩⟩ | ⟨_, ⟨x, hx, r, hr, e⟩ | ⟨_, h | ⟨x, hx, r, hr, e⟩⟩⟩
  · exact only (SubP.whole.mpr h).1
  · exact cons O (.inr rfl) x hx r (SubP.whole.mpr hr).1 e
  · exact only (SubP.whole.mpr h).1
  · exact cons S (.inl rfl) x hx r hr e
  · exact only h
  · exact cons O (.inr rfl) x hx r hr e
theorem rowsN_row {b : Bool} {cs : List Cl} (hc : ∀ c ∈ cs, c ∈ CL) (hl : cs.length ≤ 4) : ∀ r ∈ rowsN b cs, r.length ≤ cs.length ∧ ∀ d ∈ r, d ∈ PL := fun r hr => by
  obtain ⟨h1, h2⟩ := ((rowsN_iff hl r).mp hr).facts
  refine ⟨Nat.le_trans h1 (kinds_len cs), fun d hd => ?_⟩
  rcases h2 d hd with h | h | h
  · exact pick_PL hc d h
  · exact pick_PL hc d h
  · exact pick_PL hc d h
theorem pick_small : ∀ (ds : List PyData), ds.length ≤ 2 → (pickN 4 ds).length ≤ 5
  | [], _ => by decide
  | [a], _ => by show 2 ≤ 5; omega
  | [a, b], _ => by show 5 ≤ 5; omega
  | _ :: _ :: _ :: _, h => absurd h (by simp)
theorem rowsN_len {b : Bool} {cs : List Cl} {n p : Nat} (hl : cs.length ≤ n) (hp : (pickN 4 (cs.filterMap (pickK 2))).length ≤ p) : (rowsN b cs).length ≤ n * p + (p + n * p) := by
  have h0 : (cs.filterMap (pickK 0)).length ≤ n := Nat.le_trans (List.length_filterMap_le _ _) hl
  have h3 : (cs.filterMap (pickK 3)).length ≤ n := Nat.le_trans (List.length_filterMap_le _ _) hl
  have hw : ((pickN 4 (cs.filterMap (pickK 2))).filter fun r => r.length == (cs.filterMap (pickK 2)).length).length ≤ p := Nat.le_trans (List.length_filter_le _ _) hp
  unfold rowsN
  dsimp only
  generalize (pickN 4 (cs.filterMap (pickK 2))).filter (fun r => r.length == (cs.filterMap (pickK 2)).length) = W at *
  have a1 := ahead_len h3 hw
  have a2 := ahead_len h0 hp
  have a3 := ahead_len h3 hp
  split
  · split
    · omega
    · rw [List.length_append]
      split
      · show _ + 0 ≤ _; omega
      · omega
  · rw [List.length_append]
    split
    · show _ + 0 ≤ _; omega
    · rw [List.length_append]; omega
theorem rows_many {b1 b2 : Bool} {c1 c2 : List Cl} (h : c1.length + c2.length ≤ 4) : (rowsN b1 c1).length * (rowsN b2 c2).length ≤ 14625 := by
  have big : ∀ (b : Bool) (cs : List Cl), cs.length ≤ 4 → (rowsN b cs).length ≤ 585 := fun b cs hl => rowsN_len (p := 65) hl (pickN_len 4 _ (Nat.le_trans (List.length_filterMap_le _ _) hl))
  have little : ∀ (b : Bool) (cs : List Cl), cs.length ≤ 2 → (rowsN b cs).length ≤ 25 := fun b cs hl => rowsN_len (p := 5) hl (pick_small _ (Nat.le_trans (List.length_filterMap_le _ _) hl))
  by_cases c : c1.length ≤ 2
  · exact Nat.le_trans (Nat.mul_le_mul (little b1 c1 c) (big b2 c2 (by omega))) (by omega)
  · exact Nat.le_trans (Nat.mul_le_mul (big b1 c1 (by omega)) (little b2 c2 (by omega))) (by omega)
end Mine

namespace Mine
open PySem PySem.Calls PySem.Spec PyProof.Rows PySem.W PySem.SeqAt

/-! _law_told: the run -/
theorem okN_top {n : Nat} (h : n ≤ 1000000) : n ≤ top := by unfold top; omega
theorem app_okT {F : List (List PyData)} {t : List PyData} (h : F.length ≤ 999999) : listOp "append" (F.map .list) (.list t) = some ((F ++ [t]).map .list) := by
  show (if ("append" : Str) == "append" then (if (F.map PyData.list).length < top then some (F.map PyData.list ++ [.list t]) else none) else _) = _
  rw [if_pos (by rfl), if_pos (by rw [List.length_map]; have := okN_top (n := F.length + 1) (by omega); omega), List.map_append]
  rfl
/-! gone, head -/
noncomputable def goneB (cs : List Cl) (d : PyData) : Bool := cs.any fun c => decide (c.1 < 2) && Txt.lower c.2.1 == lowK d
noncomputable def headP (cs : List Cl) (ps : List PyData) : List PyData := ps.filter fun d => !goneB cs d
noncomputable def ABs : List PyData := [.str "a", .str "b"]
theorem low_ab : NL.all (fun n => Txt.lower n == "a" || Txt.lower n == "b") = true := by decide +kernel
theorem low_in {n : Str} (h : n ∈ NL) : Txt.lower n ∈ ABl := by
  have := List.all_eq_true.mp low_ab n h
  rw [Bool.or_eq_true, beq_iff_eq, beq_iff_eq] at this
  rcases this with e | e <;> rw [e]
  · exact List.mem_cons_self
  · exact List.mem_cons_of_mem _ List.mem_cons_self
theorem lowK_in {d : PyData} (h : d ∈ PL) : lowK d ∈ ABl := by
  obtain ⟨n, hn, h⟩ := List.mem_flatMap.mp h
  obtain ⟨v, _, rfl⟩ := List.mem_map.mp h
  exact low_in hn
theorem ab_small : ABl.all (fun n => (PyData.str n).canLay0 && strO (.str n) && decide ((PyData.str n).depth ≤ 4)) = true := by decide +kernel
theorem ab_s {n : Str} (h : n ∈ ABl) : (PyData.str n).canLay0 = true ∧ strO (.str n) = true ∧ (PyData.str n).depth ≤ 4 := by
  have := List.all_eq_true.mp ab_small n h
  simp only [Bool.and_eq_true, decide_eq_true_eq] at this
  exact ⟨this.1.1, this.1.2, this.2⟩
theorem gone_notin {cs : List Cl} (hc : ∀ c ∈ cs, c ∈ CL) {d : PyData} (hd : d ∈ PL) : cmpD .NotIn (.str (lowK d)) (.list (cs.filterMap goneK)) = some (.bool (!goneB cs d)) := by
  have el : ∀ y ∈ cs.filterMap goneK, ∃ c ∈ cs, c.1 < 2 ∧ y = .str (Txt.lower c.2.1) := fun y hy => by
    obtain ⟨c, h0, e⟩ := List.mem_filterMap.mp hy
    unfold goneK at e
    by_cases q : c.1 < 2
    · rw [if_pos q] at e
      exact ⟨c, h0, q, (Option.some.inj e).symm⟩
    · rw [if_neg q] at e; cases e
  have el2 : ∀ y ∈ cs.filterMap goneK, ∃ n ∈ ABl, y = .str n := fun y hy => by
    obtain ⟨c, h0, _, e⟩ := el y hy
    exact ⟨_, low_in (CL_in (hc c h0)).2.1, e⟩
  have s1 : smallD (.list (cs.filterMap goneK)) = true := smallD_list (n := 4) (fun y hy => by obtain ⟨n, hn, rfl⟩ := el2 y hy; exact (ab_s hn).1) (fun y hy => by obtain ⟨n, hn, rfl⟩ := el2 y hy; exact (ab_s hn).2.2) (by omega)
  have k := ab_s (lowK_in hd)
  have s0 : smallD (.str (lowK d)) = true := by
    unfold smallD
    rw [k.1, decide_eq_true (by have := k.2.2; omega)]; rfl
  refine (if_pos (by rw [s0, s1]; rfl)).trans ?_
  congr 2
  congr 1
  rw [Bool.eq_iff_iff, List.any_eq_true]
  unfold goneB
  rw [List.any_eq_true]
  constructor
  · rintro ⟨y, hy, e⟩
    obtain ⟨c, h0, q, rfl⟩ := el y hy
    have z := ab_s (low_in (CL_in (hc c h0)).2.1)
    have := (eqv_iff z.2.1 z.1).mp e
    refine ⟨c, h0, ?_⟩
    injection this with e2
    rw [Bool.and_eq_true, decide_eq_true_eq, beq_iff_eq]
    exact ⟨q, e2⟩
  · rintro ⟨c, h0, e⟩
    rw [Bool.and_eq_true, decide_eq_true_eq, beq_iff_eq] at e
    refine ⟨.str (Txt.lower c.2.1), List.mem_filterMap.mpr ⟨c, h0, if_pos e.1⟩, ?_⟩
    have z := ab_s (low_in (CL_in (hc c h0)).2.1)
    exact (eqv_iff z.2.1 z.1).mpr (by rw [e.2])
theorem filtMap_if {X : Type} (p : X → Bool) : ∀ l : List X, l.filterMap (fun x => if p x then none else some x) = l.filter fun x => !p x
  | [] => rfl
  | x :: l => by
    rw [List.filter_cons]
    cases c : p x with
    | true => rw [List.filterMap_cons_none (by rw [c]; rfl), filtMap_if p l]; rfl
    | false => rw [List.filterMap_cons_some (b := x) (by rw [c]; rfl), filtMap_if p l]; rfl
/-- the calls of a letter; the pairs -/
noncomputable def callsL (l : Str) (cs : List Cl) : List Cl := cs.filter fun c => Txt.lower c.2.1 == l
noncomputable def pairsL (l : Str) (ps : List PyData) : List PyData := ps.filter fun d => lowK d == l
noncomputable def stoodB (l : Str) (ps : List PyData) : Bool := !(pairsL l ps).isEmpty
theorem filt_low (l : Str) : ∀ cs : List Cl, cs.filterMap (lowC l) = (callsL l cs).map clD
  | [] => rfl
  | c :: cs => by
    unfold callsL
    rw [List.filter_cons]
    cases e : Txt.lower c.2.1 == l with
    | true =>
      rw [List.filterMap_cons_some (b := clD c) (by unfold lowC; rw [e]; rfl), filt_low l cs]
      rfl
    | false =>
      rw [List.filterMap_cons_none (by unfold lowC; rw [e]; rfl), filt_low l cs]
      rfl
theorem filt_lowP (l : Str) : ∀ ps : List PyData, ps.filterMap (lowP l) = pairsL l ps
  | [] => rfl
  | d :: ps => by
    unfold pairsL
    rw [List.filter_cons]
    cases e : lowK d == l with
    | true =>
      rw [List.filterMap_cons_some (b := d) (by unfold lowP; rw [e]; rfl), filt_lowP l ps]
      rfl
    | false =>
      rw [List.filterMap_cons_none (by unfold lowP; rw [e]; rfl), filt_lowP l ps]
      rfl
section
variable {fn : Tbl} {cs : List Cl} {ps : List PyData} (hc : ∀ c ∈ cs, c ∈ CL) (hl : cs.length ≤ 4) (hp : okPs ps = true)
theorem ST_nz {st : Stmt} {ρ ρ' : Rho} {n : Nat} (h : nzT st ρ = nzT st ρ') : ST fn n st ρ = ST fn n st ρ' := by
  unfold ST exSt
  rw [h]
include hc hl in
theorem to_s0 : ST fn 9 (stAt fTo.body 0) (tl0 ps (cs.map clD)) = some (.next, tl1 (cs.filterMap goneK) ps (cs.map clD)) := by
  rw [to_0, go_lc, evG_flat (φ := fun d => goneK (unD d)) (fun d hd => by
    obtain ⟨c, h, rfl⟩ := List.mem_map.mp hd
    rw [unD_clD]
    exact of_map_eq (go_i fn) c (hc c h)), filt_cl, Option.bind_some, mkList_ok (Nat.le_trans (List.length_filterMap_le _ _) (by omega)), Option.bind_some]
  rfl
include hc hp in
theorem to_s1 : ST fn 9 (stAt fTo.body 1) (tl1 (cs.filterMap goneK) ps (cs.map clD)) = some (.next, (tl1 (cs.filterMap goneK) ps (cs.map clD)).set "head" (.val (.list (headP cs ps)))) := by
  rw [to_1, he_lc, evG_flat (φ := fun d => if goneB cs d then none else some d) (fun d hd => by
    rw [of_map_eq (he_i fn (cs.filterMap goneK)) d (okPs_PL hp d hd), gone_notin hc (okPs_PL hp d hd), bool_tr]
    cases goneB cs d <;> rfl), filtMap_if, Option.bind_some, mkList_ok (Nat.le_trans (List.length_filter_le _ _) (Nat.le_trans (okPs_len hp) (by omega)))]
  rfl
noncomputable abbrev rowsOf (l : Str) (cs : List Cl) (ps : List PyData) : List (List PyData) := rowsN (stoodB l ps) (callsL l cs)
include hc hl hp in
theorem to_letter (hR : ∀ a, fn "_law_rows" a = runF (Rf (FP 5) 40) HS ["rows"] 10 ["stood", "calls"] fRo.body fRo.scope a) {l : Str} (h : l ∈ ABl) (R H : List PyData) (hn : R.length ≤ 2) {ρ : Rho} (e0 : nzT (stAt toL.2 0) (ρ.sets [("letter", .str l)]) = tlL l R H ps (cs.map clD)) :
    XT fn 9 toL.2 (ρ.sets [("letter", .str l)]) = some (.next, (tlS (stoodB l ps) l R H ps (cs.map clD)).set "rows" (.own (R ++ [.list (LF (rowsOf l cs ps))]))) := by
  have s0 := to_l0 fn l ps (cs.map clD) H R
  have cp : ∀ d ∈ pairsL l ps, d ∈ PL := fun d hd => okPs_PL hp d (List.mem_filter.mp hd).1
  rw [st_lc, evG_flat (φ := lowP l) (fun d hd => of_map_eq (of_map_eq (st_i fn) l h) d (okPs_PL hp d hd)), filt_lowP, Option.bind_some, mkList_ok (show (pairsL l ps).length ≤ 1000 from Nat.le_trans (List.length_filter_le _ _) (Nat.le_trans (okPs_len hp) (by omega))), Option.bind_some, ne_nil cp, Option.bind_some] at s0
  replace s0 : _ = some (Fl.next, tlS (stoodB l ps) l R H ps (cs.map clD)) := s0
  have s1 := to_l1 fn l (stoodB l ps) ps (cs.map clD) H R
  have cl : (callsL l cs).length ≤ 4 := Nat.le_trans (List.length_filter_le _ _) hl
  have cc : ∀ c ∈ callsL l cs, c ∈ CL := fun c h => hc c (List.mem_filter.mp h).1
  rw [ca_lc, evG_flat (φ := fun d => lowC l (unD d)) (fun d hd => by
    obtain ⟨c, hh, rfl⟩ := List.mem_map.mp hd
    rw [unD_clD]
    exact of_map_eq (of_map_eq (ca_i fn) l h) c (hc c hh)), filt_cl, filt_low, Option.bind_some, mkList_ok (by rw [List.length_map]; omega), Option.bind_some, Option.bind_some, Option.bind_some, hR, ro_run (fn := FP 5) (stoodB l ps) (fun _ => rfl) cc cl, Option.bind_some] at s1
  have ap : listOp "append" R (.list (LF (rowsOf l cs ps))) = some (R ++ [.list (LF (rowsOf l cs ps))]) := by
    show (if ("append" : Str) == "append" then (if R.length < top then some (R ++ [_]) else none) else _) = _
    rw [if_pos (by rfl), if_pos (by have := le_top (n := R.length + 1) (by omega); omega)]
  rw [ap, Option.bind_some] at s1
  rw [to_l]
  show exLS _ _ _ _ _ _ [stAt toL.2 0, stAt toL.2 1] _ = _
  have id0 : nzT (stAt toL.2 0) (tlL l R H ps (cs.map clD)) = tlL l R H ps (cs.map clD) := by kernel_rfl
  rw [exLS_next ((ST_nz (n := 8) (e0.trans id0.symm)).trans s0), exLS_next s1]
  rfl
end

/-! the three loops -/
inductive Grow (F F' S : List (List PyData)) : Prop
  | mk (nodup : F.Nodup → F'.Nodup) (mem : ∀ t, t ∈ F' ↔ t ∈ F ∨ t ∈ S) (len : F'.length ≤ F.length + S.length)
theorem Grow.trans {F F' F'' S S' : List (List PyData)} (a : Grow F F' S) (b : Grow F' F'' S') : Grow F F'' (S ++ S') := by
  obtain ⟨a1, a2, a3⟩ := a
  obtain ⟨b1, b2, b3⟩ := b
  refine ⟨fun h => b1 (a1 h), fun t => ?_, by rw [List.length_append]; omega⟩
  rw [b2, a2, List.mem_append, or_assoc]
noncomputable def AllPL (F : List (List PyData)) : Prop := ∀ t ∈ F, ∀ d ∈ t, d ∈ PL
theorem Grow.pl {F F' S : List (List PyData)} (a : Grow F F' S) (h : AllPL F) (hs : AllPL S) : AllPL F' := fun t ht => ((a.2 t).mp ht).elim (h t) (hs t)
theorem loop_grow {sc : Scope} {body : Rho → Option (Fl × Rho)} {tg : Expr} {x : Str} {P : List (List PyData) → Rho → Prop} {G : List PyData → List (List PyData)} {N : Nat} (hb : ∀ d, bindD tg d = some [(x, d)]) (ho : ∀ d : PyData, ([(x, d)].all fun p => own1 sc p.1) = true) :
    ∀ (L : List (List PyData)), (∀ r ∈ L, AllPL (G r) ∧ ∀ F ρ, P F ρ → AllPL F → F.length + (G r).length ≤ N → ∃ ρ' F', body (ρ.sets [(x, .list r)]) = some (.next, ρ') ∧ P F' ρ' ∧ Grow F F' (G r)) →
    ∀ F ρ, P F ρ → AllPL F → F.length + (L.flatMap G).length ≤ N → ∃ ρ' F', forL sc body tg (L.map .list) ρ = some (.next, ρ') ∧ P F' ρ' ∧ Grow F F' (L.flatMap G)
  | [], _, F, ρ, p, _, _ => ⟨ρ, F, rfl, p, id, fun t => ⟨.inl, fun h => h.elim id fun h => nomatch h⟩, Nat.le_refl _⟩
  | r :: L, h, F, ρ, p, hF, hn => by
    rw [List.flatMap_cons, List.length_append] at hn
    obtain ⟨hG, hr⟩ := h r List.mem_cons_self
    obtain ⟨ρ1, F1, e1, p1, g1⟩ := hr F ρ p hF (by omega)
    have l1 := g1.3
    obtain ⟨ρ2, F2, e2, p2, g2⟩ := loop_grow hb ho L (fun r' h' => h r' (List.mem_cons_of_mem _ h')) F1 ρ1 p1 (g1.pl hF hG) (by omega)
    refine ⟨ρ2, F2, ?_, p2, ?_⟩
    · rw [List.map_cons, forL_next (hb _) (ho _) e1]
      exact e2
    · rw [List.flatMap_cons]
      exact g1.trans g2
theorem shuf_mem : ∀ (m : Nat) (l r : List PyData), ∀ x ∈ shufN m l r, ∀ d ∈ x, d ∈ l ∨ d ∈ r
  | 0, l, r, x, h, d, hd => by
    rw [List.mem_singleton.mp h] at hd
    exact List.mem_append.mp hd
  | m + 1, l, r, x, h, d, hd => by
    have en : shufN (m + 1) l r = if l.isEmpty || r.isEmpty then [l ++ r] else (shufN m l.tail r).map (fun x => l.headD .none :: x) ++ (shufN m l r.tail).map fun x => r.headD .none :: x := rfl
    rw [en] at h
    cases l with
    | nil =>
      replace h : x ∈ [[] ++ r] := h
      rw [List.mem_singleton.mp h] at hd
      exact List.mem_append.mp hd
    | cons a l =>
      cases r with
      | nil =>
        replace h : x ∈ [a :: l ++ []] := h
        rw [List.mem_singleton.mp h] at hd
        exact List.mem_append.mp hd
      | cons b r =>
        replace h : x ∈ (shufN m l (b :: r)).map (fun x => a :: x) ++ (shufN m (a :: l) r).map fun x => b :: x := h
        rcases List.mem_append.mp h with h | h
        · obtain ⟨y, hy, rfl⟩ := List.mem_map.mp h
          rcases List.mem_cons.mp hd with rfl | hd
          · exact .inl List.mem_cons_self
          · exact (shuf_mem m _ _ y hy d hd).imp (List.mem_cons_of_mem _) id
        · obtain ⟨y, hy, rfl⟩ := List.mem_map.mp h
          rcases List.mem_cons.mp hd with rfl | hd
          · exact .inr List.mem_cons_self
          · exact (shuf_mem m _ _ y hy d hd).imp id (List.mem_cons_of_mem _)
section
variable {fn : Tbl} {T R H : List PyData}
theorem ST_next {st : Stmt} {l : List Stmt} {ρ ρ' : Rho} {n : Nat} (e : l = [st]) (h : ST fn n st ρ = some (.next, ρ')) : XT fn (n + 1) l ρ = some (.next, ρ') := by
  subst e
  show exLS _ _ _ _ _ _ [st] _ = _
  rw [exLS_next h]; rfl
noncomputable def t6 (T : List PyData) : Rho := [("told", .own T)]
inductive MS (R H T : List PyData) (ρ : Rho) : Prop
  | mk (c : ∀ d, nzT (stAt toM.2 0) (ρ.sets [("left", d)]) = tL d T R H) (e : nzT (stAt fTo.body 6) ρ = t6 T)
inductive NS (R H : List PyData) (u : PyData) (T : List PyData) (ρ : Rho) : Prop
  | mk (c : ∀ d, nzT (stAt toN.2 0) (ρ.sets [("right", d)]) = tR d u T R H) (m : MS R H T ρ)
inductive OS (R H : List PyData) (u : PyData) (T : List PyData) (ρ : Rho) : Prop
  | mk (c : ∀ d, nzT toI (ρ.sets [("row", d)]) = tO d u T R H) (m : NS R H u T ρ)
theorem ms_0 : MS R H T (tt T R H) := ⟨fun _ => by kernel_rfl, by kernel_rfl⟩
theorem ns_0 (u : PyData) : NS R H u T (tL u T R H) := ⟨fun _ => by kernel_rfl, fun _ => by kernel_rfl, by kernel_rfl⟩
theorem os_0 (u v : PyData) : OS R H u T (tR v u T R H) := ⟨fun _ => by kernel_rfl, ⟨fun _ => by kernel_rfl, fun _ => by kernel_rfl, by kernel_rfl⟩⟩
theorem os_1 (u w : PyData) : OS R H u T (tO w u T R H) := ⟨fun _ => by kernel_rfl, ⟨fun _ => by kernel_rfl, fun _ => by kernel_rfl, by kernel_rfl⟩⟩
theorem os_2 (u w : PyData) (T' : List PyData) : OS R H u T' ((tO w u T R H).set "told" (.own T')) := ⟨fun _ => by kernel_rfl, ⟨fun _ => by kernel_rfl, fun _ => by kernel_rfl, by kernel_rfl⟩⟩
theorem idM (d : PyData) : nzT (stAt toM.2 0) (tL d T R H) = tL d T R H := by kernel_rfl
theorem idN (d u : PyData) : nzT (stAt toN.2 0) (tR d u T R H) = tR d u T R H := by kernel_rfl
theorem idO (d u : PyData) : nzT toI (tO d u T R H) = tO d u T R H := by kernel_rfl
theorem id6 : nzT (stAt fTo.body 6) (tt T R H) = t6 T := by kernel_rfl
theorem bM (d : PyData) : bindD toM.1 d = some [(("left" : Str), d)] := by kernel_rfl
theorem bN (d : PyData) : bindD toN.1 d = some [(("right" : Str), d)] := by kernel_rfl
theorem bO (d : PyData) : bindD toO.1 d = some [(("row" : Str), d)] := by kernel_rfl
theorem oM (d : PyData) : ([(("left" : Str), d)].all fun p => own1 fTo.scope p.1) = true := by kernel_rfl
theorem oN (d : PyData) : ([(("right" : Str), d)].all fun p => own1 fTo.scope p.1) = true := by kernel_rfl
theorem oO (d : PyData) : ([(("row" : Str), d)].all fun p => own1 fTo.scope p.1) = true := by kernel_rfl
theorem told_turn (u : PyData) {row : List PyData} {F : List (List PyData)} {ρ : Rho} (P : OS R H u (LF F) ρ) (hH : ∀ d ∈ H, d ∈ PL) (hr : ∀ d ∈ row, d ∈ PL) (hl : H.length + row.length ≤ 900) (hF : AllPL F) (hn : F.length ≤ 999999) :
    ∃ ρ' F', XT fn 7 toO.2 (ρ.sets [("row", .list row)]) = some (.next, ρ') ∧ OS R H u (LF F') ρ' ∧ Grow F F' [H ++ row] := by
  have hp : ∀ d ∈ H ++ row, d ∈ PL := fun d hd => (List.mem_append.mp hd).elim (hH d) (hr d)
  have ad : addD (.list H) (.list row) = some (.list (H ++ row)) := by
    show mkList (H ++ row) = _
    exact mkList_ok (by rw [List.length_append]; omega)
  have n0 : ST fn 6 toI (ρ.sets [("row", .list row)]) = ST fn 6 toI (tO (.list row) u (LF F) R H) := ST_nz ((P.1 _).trans (idO _ _).symm)
  have o0 := to_o0 fn H R (LF F) u (.list row)
  obtain ⟨b, hb, hb2⟩ := notin_tabs hp hF
  rw [ad, Option.bind_some, hb, bool_tr, Option.bind_some] at o0
  cases b with
  | true =>
    replace o0 : _ = XT fn 6 (thenOf toI) (tO (.list row) u (LF F) R H) := o0
    have p0 := to_p0 fn H R (LF F) u (.list row)
    rw [ad, Option.bind_some, app_okT hn, Option.bind_some] at p0
    rw [ST_next to_i p0] at o0
    refine ⟨_, F ++ [H ++ row], ST_next to_o (n0.trans o0), os_2 _ _ _, fun h => ?_, fun t => List.mem_append, ?_⟩
    · refine List.nodup_append.mpr ⟨h, by simp, ?_⟩
      intro a ha b hb z
      rw [List.mem_singleton.mp hb] at z
      exact hb2.mp rfl (z ▸ ha)
    · rw [List.length_append]; exact Nat.le_refl _
  | false =>
    replace o0 : _ = XT fn 6 (elseOf toI) (tO (.list row) u (LF F) R H) := o0
    rw [to_e] at o0
    replace o0 : _ = some (Fl.next, tO (.list row) u (LF F) R H) := o0
    refine ⟨_, F, ST_next to_o (n0.trans o0), os_1 _ _, id, fun t => ⟨.inl, fun h => h.elim id fun h => ?_⟩, Nat.le_add_right _ _⟩
    rw [List.mem_singleton.mp h]
    exact Classical.byContradiction fun z => Bool.false_ne_true (hb2.mpr z)
/-- the rows of one right row -/
theorem told_right (hS : ∀ a, fn "_law_shuffles" a = FS 6 "_law_shuffles" a) {u v : List PyData} {F : List (List PyData)} {ρ : Rho} (P : NS R H (.list u) (LF F) ρ) (hH : ∀ d ∈ H, d ∈ PL) (hHl : H.length ≤ 12) (hu : ∀ d ∈ u, d ∈ PL) (hv : ∀ d ∈ v, d ∈ PL) (hl : u.length + v.length ≤ 5) (hF : AllPL F) (hn : F.length + 32 ≤ 999999) :
    ∃ ρ' F', XT fn 8 toN.2 (ρ.sets [("right", .list v)]) = some (.next, ρ') ∧ NS R H (.list u) (LF F') ρ' ∧ Grow F F' ((shufN 5 u v).flatMap fun row => [H ++ row]) := by
  have n0 : ST fn 7 (stAt toN.2 0) (ρ.sets [("right", .list v)]) = ST fn 7 (stAt toN.2 0) (tR (.list v) (.list u) (LF F) R H) := ST_nz ((P.1 _).trans (idN _ _).symm)
  have e := to_n0 fn H R (LF F) (.list u) (.list v)
  rw [hS, sh_run 5 (by omega) u v hl hu hv, Option.bind_some] at e
  replace e : _ = forL fTo.scope (XT fn 7 toO.2) toO.1 ((shufN 5 u v).map .list) (tR (.list v) (.list u) (LF F) R H) := e
  have sl : (shufN 5 u v).length ≤ 32 := shufN_len 5 u v
  have fl : ((shufN 5 u v).flatMap fun row => [H ++ row]).length ≤ 32 := Nat.le_trans (flat_len (c := 1) fun _ _ => Nat.le_refl _) (by omega)
  obtain ⟨ρ', F', e1, p1, g1⟩ := loop_grow (body := XT fn 7 toO.2) (P := fun F ρ => OS R H (.list u) (LF F) ρ) (G := fun row => [H ++ row]) (N := 999999) bO oO (shufN 5 u v) (fun row hr => by
    have pr := shuf_mem 5 u v row hr
    have pl : ∀ d ∈ row, d ∈ PL := fun d hd => (pr d hd).elim (hu d) (hv d)
    refine ⟨fun t ht d hd => ?_, fun F ρ p hF hn => told_turn (.list u) p hH pl (by have := shufN_row 5 u v row hr; omega) hF (by omega)⟩
    rw [List.mem_singleton.mp ht] at hd
    exact (List.mem_append.mp hd).elim (hH d) (pl d)) F _ (os_0 (.list u) (.list v)) hF (by omega)
  exact ⟨ρ', F', ST_next to_n (n0.trans (e.trans e1)), p1.2, g1⟩
noncomputable abbrev toldR (H u : List PyData) (rb : List (List PyData)) : List (List PyData) := rb.flatMap fun v => (shufN 5 u v).flatMap fun row => [H ++ row]
theorem idx_1 (a b : PyData) : idxD (.list [a, b]) (.int 1) = some b := by kernel_rfl
theorem idx_0 (a b : PyData) : idxD (.list [a, b]) (.int 0) = some a := by kernel_rfl
theorem told_left (hS : ∀ a, fn "_law_shuffles" a = FS 6 "_law_shuffles" a) {u : List PyData} {ra rb : List (List PyData)} {F : List (List PyData)} {ρ : Rho} (P : MS [.list (LF ra), .list (LF rb)] H (LF F) ρ) (hH : ∀ d ∈ H, d ∈ PL) (hHl : H.length ≤ 12) (hu : ∀ d ∈ u, d ∈ PL) (hb : ∀ v ∈ rb, (∀ d ∈ v, d ∈ PL) ∧ u.length + v.length ≤ 5) (hF : AllPL F) (hn : F.length + (toldR H u rb).length + 32 ≤ 999999) :
    ∃ ρ' F', XT fn 9 toM.2 (ρ.sets [("left", .list u)]) = some (.next, ρ') ∧ MS [.list (LF ra), .list (LF rb)] H (LF F') ρ' ∧ Grow F F' (toldR H u rb) := by
  have n0 : ST fn 8 (stAt toM.2 0) (ρ.sets [("left", .list u)]) = ST fn 8 (stAt toM.2 0) (tL (.list u) (LF F) [.list (LF ra), .list (LF rb)] H) := ST_nz ((P.1 _).trans (idM _).symm)
  have e := to_m0 fn H [.list (LF ra), .list (LF rb)] (LF F) (.list u)
  rw [idx_1, Option.bind_some] at e
  replace e : _ = forL fTo.scope (XT fn 8 toN.2) toN.1 (LF rb) (tL (.list u) (LF F) [.list (LF ra), .list (LF rb)] H) := e
  obtain ⟨ρ', F', e1, p1, g1⟩ := loop_grow (body := XT fn 8 toN.2) (P := fun F ρ => NS [.list (LF ra), .list (LF rb)] H (.list u) (LF F) ρ) (G := fun v => (shufN 5 u v).flatMap fun row => [H ++ row]) (N := 999999 - 32) bN oN rb (fun v hv => by
    obtain ⟨pv, lv⟩ := hb v hv
    refine ⟨fun t ht d hd => ?_, fun F ρ p hF hn => told_right hS p hH hHl hu pv lv hF (by omega)⟩
    obtain ⟨row, hr, h⟩ := List.mem_flatMap.mp ht
    rw [List.mem_singleton.mp h] at hd
    exact (List.mem_append.mp hd).elim (hH d) fun hd => (shuf_mem 5 u v row hr d hd).elim (hu d) (pv d)) F _ (ns_0 (.list u)) hF (show F.length + (toldR H u rb).length ≤ 999999 - 32 by omega)
  exact ⟨ρ', F', ST_next to_m (n0.trans (e.trans e1)), p1.2, g1⟩

end
theorem flat_le {X : Type} {f : X → List (List PyData)} {c : Nat} {l : List X} (h : ∀ x ∈ l, (f x).length ≤ c) : (l.flatMap f).length ≤ l.length * c := flat_len h
theorem ab_len : ∀ cs : List Cl, (callsL "a" cs).length + (callsL "b" cs).length ≤ cs.length
  | [] => Nat.le_refl _
  | c :: cs => by
    have ih := ab_len cs
    unfold callsL at ih ⊢
    rw [List.filter_cons, List.filter_cons, List.length_cons]
    cases ea : Txt.lower c.2.1 == "a" with
    | true =>
      have eb : (Txt.lower c.2.1 == "b") = false := by
        rw [beq_iff_eq.mp ea]; decide +kernel
      rw [eb, if_pos rfl, if_neg (by decide), List.length_cons]
      omega
    | false =>
      rw [if_neg (by decide)]
      split
      · rw [List.length_cons]; omega
      · omega
theorem told_run {fn : Tbl} {cs : List Cl} {ps : List PyData} (hR : ∀ a, fn "_law_rows" a = runF (Rf (FP 5) 40) HS ["rows"] 10 ["stood", "calls"] fRo.body fRo.scope a) (hS : ∀ a, fn "_law_shuffles" a = FS 6 "_law_shuffles" a) (hc : ∀ c ∈ cs, c ∈ CL) (hl : cs.length ≤ 4) (hp : okPs ps = true) :
    ∃ T : List (List PyData), runB (XT fn 10 fTo.body) ["pairs", "calls"] [.list ps, .list (cs.map clD)] = some (.list (LF T)) ∧ T.Nodup ∧ ∀ t, t ∈ T ↔ ∃ u ∈ rowsOf "a" cs ps, ∃ v ∈ rowsOf "b" cs ps, ∃ row ∈ shufN 5 u v, t = headP cs ps ++ row := by
  have s2 := to_2 fn ps (cs.map clD) (cs.filterMap goneK) (headP cs ps)
  have s3 := to_3 fn ps (cs.map clD) (headP cs ps) []
  have bL : ∀ d : PyData, bindD toL.1 d = some [(("letter" : Str), d)] := fun d => by kernel_rfl
  have oL : ∀ d : PyData, ([(("letter" : Str), d)].all fun p => own1 fTo.scope p.1) = true := fun d => by kernel_rfl
  have la := to_letter (fn := fn) hc hl hp hR (l := "a") List.mem_cons_self [] (headP cs ps) (by show 0 ≤ 2; omega) (ρ := tlW [] (headP cs ps) ps (cs.map clD)) (by kernel_rfl)
  have lb := to_letter (fn := fn) hc hl hp hR (l := "b") (List.mem_cons_of_mem _ List.mem_cons_self) [.list (LF (rowsOf "a" cs ps))] (headP cs ps) (by show 1 ≤ 2; omega) (ρ := (tlS (stoodB "a" ps) "a" [] (headP cs ps) ps (cs.map clD)).set "rows" (.own [.list (LF (rowsOf "a" cs ps))])) (by kernel_rfl)
  rw [forL_next (bL _) (oL _) la] at s3
  replace s3 := s3.trans (forL_next (bL _) (oL _) lb)
  generalize hra : rowsOf "a" cs ps = ra at *
  generalize hrb : rowsOf "b" cs ps = rb at *
  replace s3 : _ = some (Fl.next, (tlS (stoodB "b" ps) "b" [.list (LF ra)] (headP cs ps) ps (cs.map clD)).set "rows" (.own [.list (LF ra), .list (LF rb)])) := s3
  have n4 : ST fn 9 (stAt fTo.body 4) ((tlS (stoodB "b" ps) "b" [.list (LF ra)] (headP cs ps) ps (cs.map clD)).set "rows" (.own [.list (LF ra), .list (LF rb)])) = ST fn 9 (stAt fTo.body 4) (tlS (stoodB "b" ps) "b" [.list (LF ra), .list (LF rb)] (headP cs ps) ps (cs.map clD)) := ST_nz (by kernel_rfl)
  have s4 := n4.trans (to_4 fn "b" (stoodB "b" ps) ps (cs.map clD) (headP cs ps) [.list (LF ra), .list (LF rb)])
  have s5 := to_5 fn (headP cs ps) [.list (LF ra), .list (LF rb)] []
  rw [idx_0, Option.bind_some] at s5
  replace s5 : _ = forL fTo.scope (XT fn 9 toM.2) toM.1 (LF ra) (tt [] [.list (LF ra), .list (LF rb)] (headP cs ps)) := s5
  have ablen := ab_len cs
  have cc : ∀ l, ∀ c ∈ callsL l cs, c ∈ CL := fun l c h => hc c (List.mem_filter.mp h).1
  have pa : ∀ u ∈ ra, u.length ≤ (callsL "a" cs).length ∧ ∀ d ∈ u, d ∈ PL := hra ▸ rowsN_row (cc "a") (by omega)
  have pb : ∀ u ∈ rb, u.length ≤ (callsL "b" cs).length ∧ ∀ d ∈ u, d ∈ PL := hrb ▸ rowsN_row (cc "b") (by omega)
  have hm : ra.length * rb.length ≤ 14625 := by rw [← hra, ← hrb]; exact rows_many (by omega)
  have hH : ∀ d ∈ headP cs ps, d ∈ PL := fun d hd => okPs_PL hp d (List.mem_filter.mp hd).1
  have hHl : (headP cs ps).length ≤ 12 := Nat.le_trans (List.length_filter_le _ _) (okPs_len hp)
  have tl : ∀ u, (toldR (headP cs ps) u rb).length ≤ rb.length * 32 := fun u => flat_le fun v _ => Nat.le_trans (flat_le (c := 1) fun _ _ => Nat.le_refl _) (by have := shufN_len 5 u v; omega)
  have all : (ra.flatMap fun u => toldR (headP cs ps) u rb).length ≤ 468000 := by
    refine Nat.le_trans (flat_le fun u _ => tl u) ?_
    rw [← Nat.mul_assoc]
    omega
  obtain ⟨ρ', T, e1, p1, g1⟩ := loop_grow (body := XT fn 9 toM.2) (P := fun F ρ => MS [.list (LF ra), .list (LF rb)] (headP cs ps) (LF F) ρ) (G := fun u => toldR (headP cs ps) u rb) (N := 999999 - 32) bM oM ra (fun u hu => by
    obtain ⟨lu, pu⟩ := pa u hu
    refine ⟨fun t ht d hd => ?_, fun F ρ p hF hn => told_left hS p hH hHl pu (fun v hv => ⟨(pb v hv).2, by have := (pb v hv).1; omega⟩) hF (by omega)⟩
    obtain ⟨v, hv, ht⟩ := List.mem_flatMap.mp ht
    obtain ⟨row, hr, h⟩ := List.mem_flatMap.mp ht
    rw [List.mem_singleton.mp h] at hd
    exact (List.mem_append.mp hd).elim (hH d) fun hd => (shuf_mem 5 u v row hr d hd).elim (pu d) ((pb v hv).2 d)) [] _ ms_0 (fun _ h => nomatch h) (by show 0 + _ ≤ _; omega)
  refine ⟨T, ?_, g1.1 List.nodup_nil, fun t => (g1.2 t).trans ?_⟩
  · refine (if_pos rfl).trans ?_
    have e3 : XT fn 10 fTo.body (tl0 ps (cs.map clD)) = some (.ret (.list (LF T)), freeze (t6 (LF T))) := by
      show exLS _ _ _ _ _ _ fTo.body _ = _
      rw [to_body, exLS_next (to_s0 hc hl), exLS_next (to_s1 hc hp), exLS_next s2, exLS_next s3, exLS_next s4, exLS_next (s5.trans e1), exLS_ret ((ST_nz (p1.2.trans id6.symm)).trans (to_6 fn (headP cs ps) [.list (LF ra), .list (LF rb)] (LF T)))]
      rfl
    replace e3 : XT fn 10 fTo.body (rho0 ["pairs", "calls"] [.list ps, .list (cs.map clD)]) = _ := e3
    rw [e3]
  · constructor
    · rintro (h | h)
      · cases h
      · obtain ⟨u, hu, h⟩ := List.mem_flatMap.mp h
        obtain ⟨v, hv, h⟩ := List.mem_flatMap.mp h
        obtain ⟨row, hr, h⟩ := List.mem_flatMap.mp h
        exact ⟨u, hu, v, hv, row, hr, List.mem_singleton.mp h⟩
    · rintro ⟨u, hu, v, hv, row, hr, rfl⟩
      exact .inr (List.mem_flatMap.mpr ⟨u, hu, List.mem_flatMap.mpr ⟨v, hv, List.mem_flatMap.mpr ⟨row, hr, List.mem_cons_self⟩⟩⟩)
end Mine

namespace Mine
open PySem PySem.Calls PySem.Spec PyProof.Rows PySem.W PySem.SeqAt

/-! plain mathematics: one letter -/
section
variable {X : Type}
noncomputable def kd (k : Nat) (o : List (Nat × X)) : List X := o.filterMap fun c => if c.1 = k then some c.2 else none
noncomputable def one (c : Nat × X) (s : Bool × List X) : Bool × List X :=
  if c.1 = 0 then (false, [c.2]) else if c.1 = 1 then (false, []) else if c.1 = 2 then (s.1, s.2 ++ [c.2]) else if s.1 || !s.2.isEmpty then s else (s.1, s.2 ++ [c.2])
noncomputable def run1 (o : List (Nat × X)) (s : Bool × List X) : Bool × List X := o.foldl (fun s c => one c s) s
theorem run1_app (o p : List (Nat × X)) (s : Bool × List X) : run1 (o ++ p) s = run1 p (run1 o s) := List.foldl_append
theorem kd_app (k : Nat) (o p : List (Nat × X)) : kd k (o ++ p) = kd k o ++ kd k p := List.filterMap_append
theorem kd_one (k : Nat) (c : Nat × X) : kd k [c] = if c.1 = k then [c.2] else [] := by
  unfold kd
  by_cases h : c.1 = k
  · rw [if_pos h]
    exact List.filterMap_cons_some (if_pos h)
  · rw [if_neg h]
    exact List.filterMap_cons_none (if_neg h)
theorem SubP.nil (l : List X) : SubP [] l := ⟨l, List.Perm.refl _⟩
theorem SubP.snoc {r l : List X} (h : SubP r l) (x : X) : SubP (r ++ [x]) (l ++ [x]) := by
  obtain ⟨rest, p⟩ := h
  refine ⟨rest, ?_⟩
  rw [List.append_assoc]
  exact (List.perm_middle.trans (p.cons x)).trans (List.perm_append_singleton x l).symm
/-- what one letter's calls leave, in an order -/
inductive J (st : Bool) (o : List (Nat × X)) (s : Bool × List X) : Prop
  | keep (h0 : kd 0 o = []) (h1 : ¬∃ c ∈ o, c.1 = 1) (e : s.1 = st) (t : st = true → s.2 = kd 2 o) (f : st = false → (s.2 = kd 2 o ∧ (kd 3 o = [] ∨ kd 2 o ≠ [])) ∨ ∃ x ∈ kd 3 o, s.2 = x :: kd 2 o)
  | store (e : s.1 = false) (x : X) (hx : x ∈ kd 0 o) (r : List X) (hr : SubP r (kd 2 o)) (h : s.2 = x :: r)
  | del (e : s.1 = false) (d : ∃ c ∈ o, c.1 = 1) (h : SubP s.2 (kd 2 o) ∨ ∃ x ∈ kd 3 o, ∃ r, SubP r (kd 2 o) ∧ s.2 = x :: r)
theorem J_step {st : Bool} {o : List (Nat × X)} {s : Bool × List X} (h : J st o s) (c : Nat × X) (hc : c.1 < 4) : J st (o ++ [c]) (one c s) := by
  have k0 : ∀ k, kd k (o ++ [c]) = kd k o ++ if c.1 = k then [c.2] else [] := fun k => by rw [kd_app, kd_one]
  have hd : (∃ c ∈ o, c.1 = 1) → ∃ c' ∈ o ++ [c], c'.1 = 1 := fun ⟨c', h, e⟩ => ⟨c', List.mem_append_left _ h, e⟩
  unfold one
  obtain ⟨k, x⟩ := c
  dsimp only at *
  rcases four hc with rfl | rfl | rfl | rfl
  · exact .store rfl x (by rw [k0]; exact List.mem_append_right _ List.mem_cons_self) [] (SubP.nil _) rfl
  · exact .del rfl ⟨(1, x), List.mem_append_right _ List.mem_cons_self, rfl⟩ (.inl (SubP.nil _))
  · skip
    have q0 : kd 0 (o ++ [(2, x)]) = kd 0 o := by rw [k0]; exact List.append_nil _
    have q2 : kd 2 (o ++ [(2, x)]) = kd 2 o ++ [x] := by rw [k0]; rfl
    have q3 : kd 3 (o ++ [(2, x)]) = kd 3 o := by rw [k0]; exact List.append_nil _
    rw [if_neg (by decide), if_neg (by decide), if_pos rfl]
    rcases h with ⟨h0, h1, e, t, f⟩ | ⟨e, y, hy, r, hr, h⟩ | ⟨e, d, h⟩
    · refine .keep (q0.trans h0) ?_ e (fun z => by rw [q2, t z]) (fun z => ?_)
      · rintro ⟨c', m, e'⟩
        rcases List.mem_append.mp m with m | m
        · exact h1 ⟨c', m, e'⟩
        · rw [List.mem_singleton.mp m] at e'
          exact absurd (show (2 : Nat) = 1 from e') (by decide)
      · rw [q2, q3]
        rcases f z with ⟨h, _⟩ | ⟨y, hy, h⟩
        · exact .inl ⟨by rw [h], .inr (by simp)⟩
        · exact .inr ⟨y, hy, by rw [h]; rfl⟩
    · exact .store e y (by rw [q0]; exact hy) (r ++ [x]) (by rw [q2]; exact hr.snoc x) (by rw [h]; rfl)
    · refine .del e (hd d) ?_
      rw [q2, q3]
      rcases h with h | ⟨y, hy, r, hr, h⟩
      · exact .inl (h.snoc x)
      · exact .inr ⟨y, hy, r ++ [x], hr.snoc x, by rw [h]; rfl⟩
  · skip
    have q0 : kd 0 (o ++ [(3, x)]) = kd 0 o := by rw [k0]; exact List.append_nil _
    have q2 : kd 2 (o ++ [(3, x)]) = kd 2 o := by rw [k0]; exact List.append_nil _
    have q3 : kd 3 (o ++ [(3, x)]) = kd 3 o ++ [x] := by rw [k0]; rfl
    have n1 : (¬∃ c ∈ o, c.1 = 1) → ¬∃ c ∈ o ++ [(3, x)], c.1 = 1 := by
      rintro h1 ⟨c', m, e'⟩
      rcases List.mem_append.mp m with m | m
      · exact h1 ⟨c', m, e'⟩
      · rw [List.mem_singleton.mp m] at e'
        exact absurd (show (3 : Nat) = 1 from e') (by decide)
    have old : ∀ y, y ∈ kd 3 o → y ∈ kd 3 o ++ [x] := fun y h => List.mem_append_left _ h
    have new : x ∈ kd 3 o ++ [x] := List.mem_append_right _ List.mem_cons_self
    rw [if_neg (by decide), if_neg (by decide), if_neg (by decide)]
    obtain ⟨b, T⟩ := s
    dsimp only at *
    cases c : (b || !T.isEmpty) with
    | true =>
      rw [if_pos rfl]
      rcases h with ⟨h0, h1, e, t, f⟩ | ⟨e, y, hy, r, hr, h⟩ | ⟨e, d, h⟩
      · refine .keep (q0.trans h0) (n1 h1) e (fun z => by rw [q2]; exact t z) (fun z => ?_)
        rw [q2, q3]
        dsimp only at *
        subst e
        rw [z] at c
        rcases f z with ⟨h, _⟩ | ⟨y, hy, h⟩
        · refine .inl ⟨h, .inr fun y => ?_⟩
          rw [← h] at y
          rw [y] at c
          cases c
        · exact .inr ⟨y, old y hy, h⟩
      · exact .store e y (by rw [q0]; exact hy) r (by rw [q2]; exact hr) h
      · refine .del e (hd d) ?_
        rw [q2, q3]
        rcases h with h | ⟨y, hy, r, hr, h⟩
        · exact .inl h
        · exact .inr ⟨y, old y hy, r, hr, h⟩
    | false =>
      rw [if_neg (by decide)]
      rw [Bool.or_eq_false_iff] at c
      obtain ⟨rfl, c⟩ := c
      have hT : T = [] := by cases T with | nil => rfl | cons => cases c
      subst hT
      rcases h with ⟨h0, h1, e, t, f⟩ | ⟨e, y, hy, r, hr, h⟩ | ⟨e, d, h⟩
      · refine .keep (q0.trans h0) (n1 h1) e (fun z => absurd (show false = true from e.trans z) (by decide)) (fun z => .inr ⟨x, by rw [q3]; exact new, ?_⟩)
        rcases f z with ⟨h, _⟩ | ⟨y, _, h⟩
        · rw [q2, ← h]; rfl
        · cases h
      · cases h
      · refine .del e (hd d) (.inr ⟨x, by rw [q3]; exact new, [], SubP.nil _, rfl⟩)
theorem J_run {st : Bool} : ∀ (p o : List (Nat × X)) (s : Bool × List X), J st o s → (∀ c ∈ p, c.1 < 4) → J st (o ++ p) (run1 p s)
  | [], o, s, h, _ => by rw [List.append_nil]; exact h
  | c :: p, o, s, h, hc => by
    have := J_run p (o ++ [c]) (one c s) (J_step h c (hc c List.mem_cons_self)) fun c' h' => hc c' (List.mem_cons_of_mem _ h')
    rw [List.append_assoc] at this
    exact this
theorem J_row {st : Bool} {o : List (Nat × X)} {s : Bool × List X} (h : J st o s) : RowOf (st = true) (kd 0 o) (kd 2 o) (kd 3 o) (∃ c ∈ o, c.1 = 1) s.2 := by
  rcases h with ⟨h0, h1, e, t, f⟩ | ⟨e, y, hy, r, hr, h⟩ | ⟨e, d, h⟩
  · refine .inl ⟨h0, h1, ?_⟩
    by_cases c : st = true ∨ kd 3 o = []
    · refine .inl ⟨c, ?_⟩
      cases st with
      | true => rw [t rfl]
      | false =>
        rcases f rfl with ⟨h, _⟩ | ⟨y, hy, h⟩
        · rw [h]
        · rcases c with c | c
          · cases c
          · rw [c] at hy; cases hy
    · refine .inr ⟨c, ?_⟩
      have z : st = false := Bool.eq_false_iff.mpr fun z => c (.inl z)
      rcases f z with ⟨h, h' | h'⟩ | ⟨y, hy, h⟩
      · exact absurd (.inr h') c
      · exact .inr ⟨h', by rw [h]⟩
      · exact .inl ⟨y, hy, _, List.Perm.refl _, h⟩
  · exact .inr ⟨(fun z => by rw [z.1] at hy; cases hy), .inl ⟨y, hy, r, hr, h⟩⟩
  · exact .inr ⟨fun z => z.2 d, .inr ⟨d, h⟩⟩
theorem SubP.perm {r l l' : List X} (h : SubP r l) (p : l.Perm l') : SubP r l' := let ⟨rest, q⟩ := h; ⟨rest, q.trans p⟩
theorem nil_perm {l l' : List X} (p : l.Perm l') : l = [] ↔ l' = [] := by
  constructor
  · rintro rfl; exact List.Perm.nil_eq p |>.symm
  · rintro rfl; exact List.Perm.eq_nil p
theorem RowOf.perm {st d d' : Prop} {S S' A A' O O' row : List X} (h : RowOf st S A O d row) (pS : S.Perm S') (pA : A.Perm A') (pO : O.Perm O') (pd : d ↔ d') : RowOf st S' A' O' d' row := by
  have ex : ∀ {Y Y' : List X}, Y.Perm Y' → (∃ x ∈ Y, ∃ r, SubP r A ∧ row = x :: r) → ∃ x ∈ Y', ∃ r, SubP r A' ∧ row = x :: r := fun p ⟨x, hx, r, hr, e⟩ => ⟨x, p.mem_iff.mp hx, r, hr.perm pA, e⟩
  rcases h with ⟨h0, h1, h⟩ | ⟨h0, h⟩
  · refine .inl ⟨(nil_perm pS).mp h0, fun z => h1 (pd.mpr z), ?_⟩
    rcases h with ⟨a, h⟩ | ⟨a, h⟩
    · exact .inl ⟨a.imp id (nil_perm pO).mp, h.trans pA⟩
    · refine .inr ⟨fun z => a (z.imp id (nil_perm pO).mpr), ?_⟩
      rcases h with ⟨x, hx, r, hr, e⟩ | ⟨n, h⟩
      · exact .inl ⟨x, pO.mem_iff.mp hx, r, hr.trans pA, e⟩
      · exact .inr ⟨fun z => n ((nil_perm pA).mpr z), h.trans pA⟩
  · refine .inr ⟨fun z => h0 ⟨(nil_perm pS).mpr z.1, fun y => z.2 (pd.mp y)⟩, ?_⟩
    rcases h with h | ⟨a, h⟩
    · exact .inl (ex pS h)
    · exact .inr ⟨pd.mp a, h.imp (fun h => h.perm pA) (ex pO)⟩
end
end Mine

namespace Mine
open PySem PySem.Calls PySem.Spec PyProof.Rows PySem.W PySem.SeqAt

/-! each row comes from an order -/
open Classical in
theorem perm_cnt {Y : Type} {l l' : List Y} (h : ∀ a, l.count a = l'.count a) : l.Perm l' := List.perm_iff_count.mpr h
open Classical in
theorem perm_mix {Y : Type} {cs a a' d d' b r e o o' s t u : List Y} (h : cs.Perm (a ++ (d ++ (b ++ o)))) (ha : a.Perm (s ++ a')) (hd : d.Perm (t ++ d')) (hb : b.Perm (r ++ e)) (ho : o.Perm (u ++ o')) :
    ((a' ++ (d' ++ (e ++ o'))) ++ (s ++ (t ++ (u ++ r)))).Perm cs := by
  refine perm_cnt fun x => ?_
  have h0 := List.perm_iff_count.mp h x
  have h1 := List.perm_iff_count.mp ha x
  have h2 := List.perm_iff_count.mp hd x
  have h3 := List.perm_iff_count.mp hb x
  have h4 := List.perm_iff_count.mp ho x
  simp only [List.count_append] at *
  omega
theorem mem_split {Y : Type} {x : Y} {l : List Y} (h : x ∈ l) : ∃ l', l.Perm ([x] ++ l') := by
  obtain ⟨a, b, rfl⟩ := List.append_of_mem h
  exact ⟨a ++ b, List.perm_middle⟩
section
variable {X : Type}
noncomputable abbrev mk (k : Nat) (l : List X) : List (Nat × X) := l.map fun x => (k, x)
noncomputable def dels (o : List (Nat × X)) : List (Nat × X) := o.filter fun c => c.1 == 1
theorem split_kinds : ∀ (cs : List (Nat × X)), (∀ c ∈ cs, c.1 < 4) → cs.Perm (mk 0 (kd 0 cs) ++ (dels cs ++ (mk 2 (kd 2 cs) ++ mk 3 (kd 3 cs))))
  | [], _ => List.Perm.refl _
  | c :: cs, h => by
    have ih := split_kinds cs fun c' h' => h c' (List.mem_cons_of_mem _ h')
    have hc := h c List.mem_cons_self
    have k0 : ∀ k, kd k (c :: cs) = (if c.1 = k then [c.2] else []) ++ kd k cs := fun k => by
      rw [← kd_one]; exact kd_app k [c] cs
    have d0 : dels (c :: cs) = (if c.1 = 1 then [c] else []) ++ dels cs := by
      unfold dels
      rw [List.filter_cons]
      by_cases q : c.1 = 1
      · rw [if_pos (beq_iff_eq.mpr q), if_pos q]; rfl
      · rw [if_neg (fun z => q (beq_iff_eq.mp z)), if_neg q]; rfl
    rw [k0, k0, k0, d0]
    obtain ⟨k, x⟩ := c
    rcases four hc with rfl | rfl | rfl | rfl
    · exact ih.cons _
    · exact (ih.cons _).trans List.perm_middle.symm
    · skip
      refine (ih.cons _).trans ?_
      show List.Perm _ (mk 0 (kd 0 cs) ++ (dels cs ++ ((2, x) :: (mk 2 (kd 2 cs) ++ mk 3 (kd 3 cs)))))
      rw [← List.append_assoc (mk 0 (kd 0 cs)), ← List.append_assoc (mk 0 (kd 0 cs))]
      exact List.perm_middle.symm
    · skip
      refine (ih.cons _).trans ?_
      show List.Perm _ (mk 0 (kd 0 cs) ++ (dels cs ++ (mk 2 (kd 2 cs) ++ ((3, x) :: mk 3 (kd 3 cs)))))
      rw [← List.append_assoc, ← List.append_assoc, ← List.append_assoc, ← List.append_assoc]
      exact List.perm_middle.symm
theorem run_adds : ∀ (r : List X) (b : Bool) (T : List X), run1 (mk 2 r) (b, T) = (b, T ++ r)
  | [], b, T => by rw [List.append_nil]; rfl
  | x :: r, b, T => by
    show run1 (mk 2 r) (b, T ++ [x]) = _
    rw [run_adds r, List.append_assoc]; rfl
theorem run_offers : ∀ (O : List X) (s : Bool × List X), (s.1 || !s.2.isEmpty) = true → run1 (mk 3 O) s = s
  | [], _, _ => rfl
  | x :: O, s, h => by
    show run1 (mk 3 O) (if (s.1 || !s.2.isEmpty) = true then s else _) = _
    rw [if_pos h]
    exact run_offers O s h
theorem mk_app (k : Nat) (l m : List X) : mk k (l ++ m) = mk k l ++ mk k m := List.map_append
theorem row_order {st : Bool} {cs : List (Nat × X)} (hc : ∀ c ∈ cs, c.1 < 4) {row : List X} (h : RowOf (st = true) (kd 0 cs) (kd 2 cs) (kd 3 cs) (∃ c ∈ cs, c.1 = 1) row) : ∃ α, α.Perm cs ∧ (run1 α (st, [])).2 = row := by
  have sp := split_kinds cs hc
  have hdel : (∃ c ∈ cs, c.1 = 1) → ∃ d D, dels cs = d :: D ∧ d.1 = 1 := fun ⟨c, m, e⟩ => by
    have : c ∈ dels cs := List.mem_filter.mpr ⟨m, beq_iff_eq.mpr e⟩
    cases q : dels cs with
    | nil => rw [q] at this; cases this
    | cons d D =>
      refine ⟨d, D, rfl, ?_⟩
      have : d ∈ dels cs := by rw [q]; exact List.mem_cons_self
      exact beq_iff_eq.mp (List.mem_filter.mp this).2
  have nodel : (¬∃ c ∈ cs, c.1 = 1) → dels cs = [] := fun n => List.filter_eq_nil_iff.mpr fun c m e => n ⟨c, m, beq_iff_eq.mp e⟩
  generalize kd 0 cs = S at *
  generalize kd 2 cs = A at *
  generalize kd 3 cs = O at *
  generalize dels cs = D at *
  have self : ∀ {Y : Type} (l : List Y), l.Perm ([] ++ l) := fun l => List.Perm.refl _
  have all : ∀ {Y : Type} (l : List Y), l.Perm (l ++ []) := fun l => by rw [List.append_nil]
  rcases h with ⟨rfl, n, h⟩ | ⟨h0, h⟩
  · have := nodel n
    subst this
    rcases h with ⟨g, h⟩ | ⟨g, ⟨x, hx, r, hr, rfl⟩ | ⟨nA, h⟩⟩
    · refine ⟨mk 2 row ++ mk 3 O, ?_, ?_⟩
      · exact ((h.map _).append_right _).trans sp.symm
      · rw [run1_app, run_adds]
        rcases g with rfl | rfl
        · rw [run_offers _ _ rfl]; rfl
        · rfl
    · obtain ⟨O', hO⟩ := mem_split hx
      have hs : st = false := Bool.eq_false_iff.mpr fun z => g (.inl z)
      subst hs
      refine ⟨mk 3 [x] ++ (mk 2 r ++ mk 3 O'), ?_, ?_⟩
      · refine List.Perm.trans ?_ sp.symm
        show (mk 3 [x] ++ (mk 2 r ++ mk 3 O')).Perm (mk 2 A ++ mk 3 O)
        have hO : (mk 3 O).Perm (mk 3 [x] ++ mk 3 O') := by rw [← mk_app]; exact hO.map _
        refine List.Perm.trans ?_ ((hr.map _).append hO.symm)
        rw [← List.append_assoc, ← List.append_assoc]
        exact List.perm_append_comm.append_right _
      · rw [run1_app, run1_app]
        show (run1 (mk 3 O') (run1 (mk 2 r) (false, [x]))).2 = _
        rw [run_adds, run_offers _ _ rfl]; rfl
    · refine ⟨mk 2 row ++ mk 3 O, ((h.map _).append_right _).trans sp.symm, ?_⟩
      rw [run1_app, run_adds, run_offers]
      · rfl
      · cases row with
        | nil => exact absurd (List.Perm.nil_eq h).symm nA
        | cons => cases st <;> rfl
  · rcases h with ⟨s, hs, r, ⟨rest, hr⟩, rfl⟩ | ⟨d, h⟩
    · obtain ⟨S', hS⟩ := mem_split hs
      refine ⟨_, perm_mix sp (a' := mk 0 S') (s := mk 0 [s]) (by rw [← mk_app]; exact hS.map _) (self D) (r := mk 2 r) (e := mk 2 rest) (by rw [← mk_app]; exact (hr.symm.map _)) (self (mk 3 O)), ?_⟩
      rw [run1_app]
      show (run1 (mk 2 r) (one (0, s) _)).2 = _
      show (run1 (mk 2 r) (false, [s])).2 = _
      rw [run_adds]; rfl
    · obtain ⟨c, D', hD, hc1⟩ := hdel d
      subst hD
      have pD : (c :: D').Perm ([c] ++ D') := List.Perm.refl _
      have clear : ∀ s : Bool × List X, one c s = (false, []) := fun s => by
        unfold one
        rw [hc1]; rfl
      rcases h with ⟨rest, hr⟩ | ⟨x, hx, r, ⟨rest, hr⟩, rfl⟩
      · refine ⟨_, perm_mix sp (self (mk 0 S)) pD (r := mk 2 row) (e := mk 2 rest) (by rw [← mk_app]; exact (hr.symm.map _)) (self (mk 3 O)), ?_⟩
        rw [run1_app]
        show (run1 (mk 2 row) (one c _)).2 = _
        rw [clear, run_adds]; rfl
      · obtain ⟨O', hO⟩ := mem_split hx
        refine ⟨_, perm_mix sp (self (mk 0 S)) pD (r := mk 2 r) (e := mk 2 rest) (by rw [← mk_app]; exact (hr.symm.map _)) (u := mk 3 [x]) (o' := mk 3 O') (by rw [← mk_app]; exact hO.map _), ?_⟩
        rw [run1_app]
        show (run1 (mk 2 r) (one (3, x) (one c _))).2 = _
        rw [clear]
        show (run1 (mk 2 r) (false, [x])).2 = _
        rw [run_adds]; rfl
theorem kd_perm (k : Nat) {o p : List (Nat × X)} (h : o.Perm p) : (kd k o).Perm (kd k p) := h.filterMap _
/-- the rows that the orders of one letter's calls leave -/
theorem rows_orders {st : Bool} {cs : List (Nat × X)} (hc : ∀ c ∈ cs, c.1 < 4) (row : List X) : RowOf (st = true) (kd 0 cs) (kd 2 cs) (kd 3 cs) (∃ c ∈ cs, c.1 = 1) row ↔ ∃ α, α.Perm cs ∧ (run1 α (st, [])).2 = row := by
  refine ⟨row_order hc, ?_⟩
  rintro ⟨α, p, rfl⟩
  have j0 : J st ([] : List (Nat × X)) (st, []) := .keep rfl (fun ⟨_, h, _⟩ => nomatch h) rfl (fun _ => rfl) (fun _ => .inl ⟨rfl, .inl rfl⟩)
  have := J_row (J_run α [] (st, []) j0 fun c h => hc c (p.mem_iff.mp h))
  exact this.perm (kd_perm 0 p) (kd_perm 2 p) (kd_perm 3 p) ⟨fun ⟨c, h, e⟩ => ⟨c, p.mem_iff.mp h, e⟩, fun ⟨c, h, e⟩ => ⟨c, p.mem_iff.mpr h, e⟩⟩
end
end Mine

namespace Mine
open PySem PySem.Calls PySem.Spec PyProof.Rows PySem.W PySem.SeqAt

/-! the whole table: two letters act apart -/
section
variable {X : Type} (col : X → Bool)
noncomputable def stepX (c : Nat × X) (t : List X) : List X :=
  if c.1 = 0 then t.filter (fun d => !(col d == col c.2)) ++ [c.2] else if c.1 = 1 then t.filter (fun d => !(col d == col c.2)) else if c.1 = 2 then t ++ [c.2] else if t.any (fun d => col d == col c.2) then t else t ++ [c.2]
noncomputable def runX (o : List (Nat × X)) (t : List X) : List X := o.foldl (fun t c => stepX col c t) t
/-- what stood, and what came behind it -/
noncomputable def stp (c : Nat × X) (s : List X × List X) : List X × List X :=
  if c.1 = 0 then (s.1.filter (fun d => !(col d == col c.2)), s.2.filter (fun d => !(col d == col c.2)) ++ [c.2]) else if c.1 = 1 then (s.1.filter (fun d => !(col d == col c.2)), s.2.filter (fun d => !(col d == col c.2)))
  else if c.1 = 2 then (s.1, s.2 ++ [c.2]) else if (s.1 ++ s.2).any (fun d => col d == col c.2) then s else (s.1, s.2 ++ [c.2])
noncomputable def runS (o : List (Nat × X)) (s : List X × List X) : List X × List X := o.foldl (fun s c => stp col c s) s
theorem stp_step (c : Nat × X) (s : List X × List X) : stepX col c (s.1 ++ s.2) = (stp col c s).1 ++ (stp col c s).2 := by
  unfold stepX stp
  by_cases h0 : c.1 = 0
  · rw [if_pos h0, if_pos h0, List.filter_append, List.append_assoc]
  rw [if_neg h0, if_neg h0]
  by_cases h1 : c.1 = 1
  · rw [if_pos h1, if_pos h1, List.filter_append]
  rw [if_neg h1, if_neg h1]
  by_cases h2 : c.1 = 2
  · rw [if_pos h2, if_pos h2, List.append_assoc]
  rw [if_neg h2, if_neg h2]
  by_cases h3 : (s.1 ++ s.2).any (fun d => col d == col c.2) = true
  · rw [if_pos h3, if_pos h3]
  · rw [if_neg h3, if_neg h3, List.append_assoc]
theorem runS_run : ∀ (o : List (Nat × X)) (s : List X × List X), runX col o (s.1 ++ s.2) = (runS col o s).1 ++ (runS col o s).2
  | [], _ => rfl
  | c :: o, s => by
    show runX col o (stepX col c (s.1 ++ s.2)) = _
    rw [stp_step]
    exact runS_run o (stp col c s)
theorem filt_ff (b b' : Bool) (l : List X) : (l.filter (fun d => !(col d == b'))).filter (fun d => col d == b) = if b' = b then [] else l.filter (fun d => col d == b) := by
  rw [List.filter_filter]
  by_cases h : b' = b
  · subst h
    rw [if_pos rfl]
    exact List.filter_eq_nil_iff.mpr fun d _ => by cases col d == b' <;> decide
  · rw [if_neg h]
    congr 1
    funext d
    revert h
    cases col d <;> cases b <;> cases b' <;> decide
theorem any_ff (b b' : Bool) (l : List X) : (l.filter (fun d => !(col d == b'))).any (fun d => col d == b) = if b' = b then false else l.any (fun d => col d == b) := by
  rw [List.any_filter]
  by_cases h : b' = b
  · subst h
    rw [if_pos rfl]
    exact List.any_eq_false.mpr fun d _ => by cases col d == b' <;> decide
  · rw [if_neg h]
    congr 1
    funext d
    revert h
    cases col d <;> cases b <;> cases b' <;> decide
/-- one letter's part -/
noncomputable def part (b : Bool) (s : List X × List X) : Bool × List X := (s.1.any (fun d => col d == b), s.2.filter (fun d => col d == b))
theorem filt_one (b : Bool) (x : X) : [x].filter (fun d => col d == b) = if col x = b then [x] else [] := by
  rw [List.filter_cons]
  by_cases h : col x = b
  · rw [if_pos (beq_iff_eq.mpr h), if_pos h]; rfl
  · rw [if_neg (fun z => h (beq_iff_eq.mp z)), if_neg h]; rfl
theorem any_part (b : Bool) (s : List X × List X) : (s.1 ++ s.2).any (fun d => col d == b) = ((part col b s).1 || !(part col b s).2.isEmpty) := by
  rw [List.any_append]
  unfold part
  congr 1
  rw [Bool.eq_iff_iff, List.any_eq_true, Bool.not_eq_true']
  constructor
  · rintro ⟨d, hd, e⟩
    have : d ∈ s.2.filter fun d => col d == b := List.mem_filter.mpr ⟨hd, e⟩
    cases q : s.2.filter fun d => col d == b with
    | nil => rw [q] at this; cases this
    | cons => rfl
  · intro h
    cases q : s.2.filter fun d => col d == b with
    | nil => rw [q] at h; cases h
    | cons d l =>
      have : d ∈ s.2.filter fun d => col d == b := by rw [q]; exact List.mem_cons_self
      exact ⟨d, (List.mem_filter.mp this).1, (List.mem_filter.mp this).2⟩
theorem part_stp (b : Bool) (c : Nat × X) (s : List X × List X) : part col b (stp col c s) = if col c.2 = b then one c (part col b s) else part col b s := by
  unfold stp
  by_cases h0 : c.1 = 0
  · rw [if_pos h0]
    unfold part one
    rw [any_ff, List.filter_append, filt_ff, filt_one, if_pos h0]
    by_cases h : col c.2 = b
    · rw [if_pos h, if_pos h, if_pos h, if_pos h]; rfl
    · rw [if_neg h, if_neg h, if_neg h, if_neg h, List.append_nil]
  rw [if_neg h0]
  by_cases h1 : c.1 = 1
  · rw [if_pos h1]
    unfold part one
    rw [any_ff, filt_ff, if_neg h0, if_pos h1]
    by_cases h : col c.2 = b
    · rw [if_pos h, if_pos h, if_pos h]
    · rw [if_neg h, if_neg h, if_neg h]
  rw [if_neg h1]
  have app : part col b (s.1, s.2 ++ [c.2]) = if col c.2 = b then ((part col b s).1, (part col b s).2 ++ [c.2]) else part col b s := by
    unfold part
    rw [List.filter_append, filt_one]
    by_cases h : col c.2 = b
    · rw [if_pos h, if_pos h]
    · rw [if_neg h, if_neg h, List.append_nil]
  by_cases h2 : c.1 = 2
  · rw [if_pos h2, app]
    unfold one
    rw [if_neg h0, if_neg h1, if_pos h2]
  rw [if_neg h2, any_part]
  unfold one
  rw [if_neg h0, if_neg h1, if_neg h2]
  by_cases h : col c.2 = b
  · subst h
    rw [if_pos rfl]
    by_cases h3 : ((part col (col c.2) s).1 || !(part col (col c.2) s).2.isEmpty) = true
    · rw [if_pos h3, if_pos h3]
    · rw [if_neg h3, if_neg h3, app, if_pos rfl]
  · rw [if_neg h]
    by_cases h3 : ((part col (col c.2) s).1 || !(part col (col c.2) s).2.isEmpty) = true
    · rw [if_pos h3]
    · rw [if_neg h3, app, if_neg h]
noncomputable abbrev ofc (b : Bool) (o : List (Nat × X)) : List (Nat × X) := o.filter fun c => col c.2 == b
theorem part_run (b : Bool) : ∀ (o : List (Nat × X)) (s : List X × List X), part col b (runS col o s) = run1 (ofc col b o) (part col b s)
  | [], _ => rfl
  | c :: o, s => by
    show part col b (runS col o (stp col c s)) = _
    rw [part_run b o, part_stp]
    unfold ofc
    rw [List.filter_cons]
    by_cases h : col c.2 = b
    · rw [if_pos h, if_pos (beq_iff_eq.mpr h)]; rfl
    · rw [if_neg h, if_neg (fun z => h (beq_iff_eq.mp z))]
noncomputable def goneX (o : List (Nat × X)) (d : X) : Bool := o.any fun c => decide (c.1 < 2) && col c.2 == col d
theorem head_run : ∀ (o : List (Nat × X)) (s : List X × List X), (∀ c ∈ o, c.1 < 4) → (runS col o s).1 = s.1.filter fun d => !goneX col o d
  | [], s, _ => (List.filter_eq_self.mpr fun _ _ => rfl).symm
  | c :: o, s, hc => by
    show (runS col o (stp col c s)).1 = _
    rw [head_run o _ fun c' h' => hc c' (List.mem_cons_of_mem _ h')]
    have g : ∀ d, goneX col (c :: o) d = ((decide (c.1 < 2) && col c.2 == col d) || goneX col o d) := fun d => List.any_cons
    by_cases h : c.1 < 2
    · have e : (stp col c s).1 = s.1.filter fun d => !(col d == col c.2) := by
        unfold stp
        by_cases h0 : c.1 = 0
        · rw [if_pos h0]
        · rw [if_neg h0, if_pos (by omega)]
      rw [e, List.filter_filter]
      congr 1
      funext d
      rw [g, decide_eq_true h, Bool.true_and, Bool.not_or, Bool.and_comm, Bool.beq_comm]
    · have e : (stp col c s).1 = s.1 := by
        unfold stp
        rw [if_neg (by omega), if_neg (by omega)]
        split
        · rfl
        · split <;> rfl
      rw [e]
      congr 1
      funext d
      rw [g, decide_eq_false h, Bool.false_and, Bool.false_or]
theorem filt_col (b : Bool) {l : List X} (h : ∀ x ∈ l, col x = b) : l.filter (fun d => col d == b) = l := List.filter_eq_self.mpr fun x hx => beq_iff_eq.mpr (h x hx)
theorem run1_col {b : Bool} : ∀ (o : List (Nat × X)) (s : Bool × List X), (∀ c ∈ o, col c.2 = b) → (∀ x ∈ s.2, col x = b) → ∀ x ∈ (run1 o s).2, col x = b
  | [], _, _, h, x, hx => h x hx
  | c :: o, s, hc, h, x, hx => by
    refine run1_col o (one c s) (fun c' h' => hc c' (List.mem_cons_of_mem _ h')) (fun y hy => ?_) x hx
    have c0 := hc c List.mem_cons_self
    have sn : ∀ y ∈ s.2 ++ [c.2], col y = b := fun y hy => (List.mem_append.mp hy).elim (h y) fun z => by rw [List.mem_singleton.mp z]; exact c0
    unfold one at hy
    split at hy
    · rw [List.mem_singleton.mp hy]; exact c0
    split at hy
    · cases hy
    split at hy
    · exact sn y hy
    split at hy
    · exact h y hy
    · exact sn y hy
theorem nil_parts {T : List X} (h : ∀ b, T.filter (fun d => col d == b) = []) : T = [] := by
  cases T with
  | nil => rfl
  | cons x T =>
    have : x ∈ (x :: T).filter fun d => col d == col x := List.mem_filter.mpr ⟨List.mem_cons_self, beq_self_eq_true _⟩
    rw [h] at this
    cases this
/-- letters' orders can be laid into one another so that the rows stand as they shall -/
theorem merge (H : List X) : ∀ (n : Nat) (γ : Bool → List (Nat × X)) (T : List X), (γ true).length + (γ false).length = n → (∀ b, ∀ c ∈ γ b, col c.2 = b) →
    (∀ b, T.filter (fun d => col d == b) = (run1 (γ b) (H.any (fun d => col d == b), [])).2) → ∃ o, (∀ b, ofc col b o = γ b) ∧ (runS col o (H, [])).2 = T := by
  intro n
  induction n using Nat.strongRecOn with
  | ind n ih =>
    intro γ T hn hγ hT
    have p0 : ∀ b, part col b (H, ([] : List X)) = (H.any (fun d => col d == b), []) := fun b => rfl
    rcases List.eq_nil_or_concat T with rfl | ⟨T', x, rfl⟩
    · have hf : ∀ b, ofc col b (γ true ++ γ false) = γ b := fun b => by
        unfold ofc
        rw [List.filter_append]
        have e : ∀ b', (γ b').filter (fun c => col c.2 == b) = if b' = b then γ b' else [] := fun b' => by
          by_cases h : b' = b
          · rw [if_pos h]
            exact List.filter_eq_self.mpr fun c hc => beq_iff_eq.mpr ((hγ b' c hc).trans h)
          · rw [if_neg h]
            exact List.filter_eq_nil_iff.mpr fun c hc z => h ((hγ b' c hc).symm.trans (beq_iff_eq.mp z))
        rw [e, e]
        cases b
        · rw [if_neg (by decide), if_pos rfl]; rfl
        · rw [if_pos rfl, if_neg (by decide), List.append_nil]
      refine ⟨_, hf, nil_parts col fun b => ?_⟩
      have := congrArg Prod.snd (part_run col b (γ true ++ γ false) (H, []))
      rw [hf, p0, ← hT] at this
      exact this
    · have hb := hT (col x)
      rw [List.concat_eq_append, List.filter_append, filt_one, if_pos rfl] at hb
      rcases List.eq_nil_or_concat (γ (col x)) with hg | ⟨g, c, hg⟩
      · rw [hg] at hb
        exact absurd hb (by show _ ++ [x] ≠ []; simp)
      · rw [List.concat_eq_append] at hg
        have cc : col c.2 = col x := hγ _ c (by rw [hg]; exact List.mem_append_right _ List.mem_cons_self)
        have cg : ∀ c' ∈ g, col c'.2 = col x := fun c' h => hγ _ c' (by rw [hg]; exact List.mem_append_left _ h)
        rw [hg, run1_app] at hb
        have other : ∀ b, b ≠ col x → (T'.concat x).filter (fun d => col d == b) = T'.filter fun d => col d == b := fun b h => by
          rw [List.concat_eq_append, List.filter_append, filt_one, if_neg (Ne.symm h), List.append_nil]
        replace hb : T'.filter (fun d => col d == col x) ++ [x] = (one c (run1 g (H.any (fun d => col d == col x), []))).2 := hb
        have s1c : ∀ y ∈ (run1 g (H.any (fun d => col d == col x), [])).2, col y = col x := run1_col col g _ cg (fun _ h => nomatch h)
        generalize hs1 : run1 g (H.any (fun d => col d == col x), []) = s1 at hb s1c
        have hγ' : ∀ b, ∀ c' ∈ (if b = col x then g else γ b), col c'.2 = b := fun b c' h' => by
          by_cases h : b = col x
          · rw [if_pos h] at h'; rw [h]; exact cg c' h'
          · rw [if_neg h] at h'; exact hγ b c' h'
        have fin : ∀ T'', T''.filter (fun d => col d == col x) = s1.2 → (∀ b, b ≠ col x → T''.filter (fun d => col d == b) = T'.filter fun d => col d == b) → (∀ s : List X × List X, s.2 = T'' → part col (col x) s = s1 → (stp col c s).2 = T'.concat x) → ∃ o, (∀ b, ofc col b o = γ b) ∧ (runS col o (H, [])).2 = T'.concat x := fun T'' e1 e2 e3 => by
          have len : (if true = col x then g else γ true).length + (if false = col x then g else γ false).length < n := by
            have lg := congrArg List.length hg
            rw [List.length_append] at lg
            cases hx : col x with
            | true => rw [hx] at lg; rw [if_pos rfl, if_neg (by decide)]; change _ = _ + 1 at lg; omega
            | false => rw [hx] at lg; rw [if_neg (by decide), if_pos rfl]; change _ = _ + 1 at lg; omega
          obtain ⟨o', h1, h2⟩ := ih _ len (fun b => if b = col x then g else γ b) T'' rfl hγ' (fun b => by
            by_cases h : b = col x
            · subst h
              rw [if_pos rfl, hs1]; exact e1
            · rw [if_neg h, e2 b h, ← other b h]; exact hT b)
          refine ⟨o' ++ [c], fun b => ?_, ?_⟩
          · unfold ofc at h1 ⊢
            rw [List.filter_append, h1 b]
            by_cases h : b = col x
            · subst h
              rw [if_pos rfl, hg, List.filter_cons, if_pos (beq_iff_eq.mpr cc)]; rfl
            · rw [if_neg h, List.filter_cons, if_neg (fun z => h ((beq_iff_eq.mp z).symm.trans cc))]; exact List.append_nil _
          · have : runS col (o' ++ [c]) (H, []) = stp col c (runS col o' (H, [])) := List.foldl_append
            rw [this]
            refine e3 _ h2 ?_
            rw [part_run, h1 (col x), if_pos rfl]
            exact hs1
        have push : T'.filter (fun d => col d == col x) = s1.2 ∧ x = c.2 → (∀ s : List X × List X, part col (col x) s = s1 → (stp col c s).2 = s.2 ++ [c.2]) → ∃ o, (∀ b, ofc col b o = γ b) ∧ (runS col o (H, [])).2 = T'.concat x := fun q st => fin T' q.1 (fun _ _ => rfl) fun s h2 hp => by
          rw [st s hp, h2, List.concat_eq_append, q.2]
        have inj : ∀ {a b : List X} {y : X}, a ++ [x] = b ++ [y] → a = b ∧ x = y := fun h => by
          have := List.append_inj' h rfl
          exact ⟨this.1, List.head_eq_of_cons_eq this.2⟩
        by_cases k0 : c.1 = 0
        · unfold one at hb
          rw [if_pos k0] at hb
          obtain ⟨q1, q2⟩ := inj (b := []) hb
          have nT : ∀ y ∈ T', (col y == col x) = false := fun y hy => by
            have := List.filter_eq_nil_iff.mp q1 y hy
            exact Bool.eq_false_iff.mpr this
          refine fin (s1.2 ++ T') ?_ (fun b h => ?_) fun s h2 _ => ?_
          · rw [List.filter_append, q1, List.append_nil]
            exact filt_col col _ s1c
          · rw [List.filter_append, List.filter_eq_nil_iff.mpr (fun y hy z => h ((beq_iff_eq.mp z).symm.trans (s1c y hy)))]; rfl
          · unfold stp
            rw [if_pos k0, cc, h2, List.concat_eq_append, ← q2]
            show _ ++ [x] = _
            rw [List.filter_append, List.filter_eq_nil_iff.mpr (fun y hy z => by rw [s1c y hy, beq_self_eq_true] at z; cases z), List.filter_eq_self.mpr (fun y hy => by rw [nT y hy]; rfl)]
            rfl
        by_cases k1 : c.1 = 1
        · unfold one at hb
          rw [if_neg k0, if_pos k1] at hb
          exact absurd hb (by simp)
        by_cases k2 : c.1 = 2
        · unfold one at hb
          rw [if_neg k0, if_neg k1, if_pos k2] at hb
          refine push (inj hb) fun s _ => ?_
          unfold stp
          rw [if_neg k0, if_neg k1, if_pos k2]
        by_cases k3 : (s1.1 || !s1.2.isEmpty) = true
        · unfold one at hb
          rw [if_neg k0, if_neg k1, if_neg k2, if_pos k3] at hb
          refine fin (T'.concat x) ?_ other fun s h2 hp => ?_
          · rw [List.concat_eq_append, List.filter_append, filt_one, if_pos rfl]; exact hb
          · unfold stp
            rw [if_neg k0, if_neg k1, if_neg k2, cc, any_part, hp, if_pos k3, h2]
        · unfold one at hb
          rw [if_neg k0, if_neg k1, if_neg k2, if_neg k3] at hb
          refine push (inj hb) fun s hp => ?_
          unfold stp
          rw [if_neg k0, if_neg k1, if_neg k2, cc, any_part, hp, if_neg k3]
theorem ofc_perm (o : List (Nat × X)) : o.Perm (ofc col true o ++ ofc col false o) := by
  have := List.filter_append_perm (fun c : Nat × X => col c.2 == true) o
  refine this.symm.trans ?_
  refine List.Perm.append_left _ ?_
  have e : o.filter (fun c => !(col c.2 == true)) = ofc col false o := by
    unfold ofc
    congr 1
    funext c
    cases col c.2 <;> rfl
  rw [e]
theorem goneX_perm {o p : List (Nat × X)} (h : o.Perm p) (d : X) : goneX col o d = goneX col p d := by
  unfold goneX
  rw [Bool.eq_iff_iff, List.any_eq_true, List.any_eq_true]
  exact ⟨fun ⟨c, m, e⟩ => ⟨c, h.mem_iff.mp m, e⟩, fun ⟨c, m, e⟩ => ⟨c, h.mem_iff.mpr m, e⟩⟩
/-- the tables that the orders leave -/
theorem orders_iff {cs : List (Nat × X)} (hc : ∀ c ∈ cs, c.1 < 4) (ps t : List X) :
    (∃ o : List (Nat × X), o.Perm cs ∧ t = runX col o ps) ↔ ∃ T, (∀ b, RowOf (ps.any (fun d => col d == b) = true) (kd 0 (ofc col b cs)) (kd 2 (ofc col b cs)) (kd 3 (ofc col b cs)) (∃ c ∈ ofc col b cs, c.1 = 1) (T.filter fun d => col d == b)) ∧ t = (ps.filter fun d => !goneX col cs d) ++ T := by
  have hb : ∀ b, ∀ c ∈ ofc col b cs, c.1 < 4 := fun b c h => hc c (List.mem_filter.mp h).1
  constructor
  · rintro ⟨o, p, rfl⟩
    have e := runS_run col o (ps, [])
    rw [List.append_nil] at e
    rw [e]
    refine ⟨(runS col o (ps, [])).2, fun b => ?_, ?_⟩
    · refine (rows_orders (hb b) _).mpr ⟨ofc col b o, p.filter _, ?_⟩
      exact (congrArg Prod.snd (part_run col b o (ps, []))).symm
    · rw [head_run col o (ps, []) fun c h => hc c (p.mem_iff.mp h)]
      congr 1
      show ps.filter _ = _
      congr 1
      funext d
      rw [goneX_perm col p]
  · rintro ⟨T, h, rfl⟩
    have hα : ∀ b, ∃ α : List (Nat × X), α.Perm (ofc col b cs) ∧ (run1 α (ps.any (fun d => col d == b), [])).2 = T.filter fun d => col d == b := fun b => (rows_orders (hb b) _).mp (h b)
    obtain ⟨α, pα, rα⟩ := hα true
    obtain ⟨β, pβ, rβ⟩ := hα false
    obtain ⟨o, ho, hT⟩ := merge col ps _ (fun b => if b = true then α else β) T rfl (fun b c m => by
      cases b
      · exact beq_iff_eq.mp (List.mem_filter.mp (pβ.mem_iff.mp m)).2
      · exact beq_iff_eq.mp (List.mem_filter.mp (pα.mem_iff.mp m)).2) (fun b => by
      cases b
      · exact rβ.symm
      · exact rα.symm)
    have po : o.Perm cs := by
      refine (ofc_perm col o).trans (List.Perm.trans ?_ (ofc_perm col cs).symm)
      rw [ho, ho]
      exact pα.append pβ
    refine ⟨o, po, ?_⟩
    have e := runS_run col o (ps, [])
    rw [List.append_nil] at e
    rw [e, hT, head_run col o (ps, []) fun c h => hc c (po.mem_iff.mp h)]
    congr 1
    show _ = ps.filter _
    congr 1
    funext d
    rw [goneX_perm col po]
end
end Mine

namespace Mine
open PySem PySem.Calls PySem.Spec PyProof.Rows PySem.W PySem.SeqAt

/-! the law's tables are those of the mathematics -/
noncomputable def col (d : PyData) : Bool := lowK d == "a"
noncomputable def toX (c : Cl) : Nat × PyData := (c.1, pr c.2.1 c.2.2)
theorem ab_key : ABl.all (fun x => ABl.all fun y => (x == y) == ((x == "a") == (y == "a"))) = true := by decide +kernel
theorem key {x y : Str} (hx : x ∈ ABl) (hy : y ∈ ABl) : (x == y) = ((x == "a") == (y == "a")) := beq_iff_eq.mp (List.all_eq_true.mp (List.all_eq_true.mp ab_key x hx) y hy)
theorem key_b : ABl.all (fun x => ((x == "a") == ((x == "a") == true)) && ((x == "b") == ((x == "a") == false))) = true := by decide +kernel
noncomputable def letB (b : Bool) : Str := if b then "a" else "b"
theorem key_l {x : Str} (hx : x ∈ ABl) (b : Bool) : (x == letB b) = ((x == "a") == b) := by
  have := List.all_eq_true.mp key_b x hx
  rw [Bool.and_eq_true] at this
  cases b
  · exact beq_iff_eq.mp this.2
  · exact beq_iff_eq.mp this.1
theorem col_pr (n v : Str) : col (pr n v) = (Txt.lower n == "a") := rfl
theorem col_same {n v : Str} (hn : n ∈ NL) {d : PyData} (hd : d ∈ PL) : (lowK d == Txt.lower n) = (col d == col (pr n v)) := key (lowK_in hd) (low_in hn)
theorem filt_congr {X : Type} {p q : X → Bool} {l : List X} (h : ∀ x ∈ l, p x = q x) : l.filter p = l.filter q := List.filter_congr h
theorem any_congr {X : Type} {p q : X → Bool} {l : List X} (h : ∀ x ∈ l, p x = q x) : l.any p = l.any q := by
  rw [Bool.eq_iff_iff, List.any_eq_true, List.any_eq_true]
  exact ⟨fun ⟨x, m, e⟩ => ⟨x, m, (h x m) ▸ e⟩, fun ⟨x, m, e⟩ => ⟨x, m, (h x m).symm ▸ e⟩⟩
theorem delP_col {n v : Str} (hn : n ∈ NL) {t : List PyData} (ht : ∀ d ∈ t, d ∈ PL) : delP n t = t.filter fun d => !(col d == col (pr n v)) := by
  have e : delP n t = t.filterMap fun d => if (lowK d == Txt.lower n) = true then none else some d := rfl
  rw [e, filtMap_if (fun d => lowK d == Txt.lower n)]
  exact filt_congr fun d hd => by rw [col_same hn (ht d hd)]
theorem getP_any {n : Str} : ∀ {t : List PyData}, (∀ d ∈ t, d ∈ PL) → if t.any (fun d => lowK d == Txt.lower n) then ∃ u, getP n t = .str u else getP n t = .none
  | [], _ => rfl
  | d :: t, h => by
    rw [List.any_cons]
    unfold getP
    cases c : lowK d == Txt.lower n with
    | true =>
      rw [Bool.true_or, if_pos rfl, if_pos rfl]
      obtain ⟨m, _, hm⟩ := List.mem_flatMap.mp (h d List.mem_cons_self)
      obtain ⟨u, _, rfl⟩ := List.mem_map.mp hm
      exact ⟨u, rfl⟩
    | false =>
      have e : (if (false = true) then valOf d else getP n t) = getP n t := if_neg (by decide)
      rw [Bool.false_or, e]
      exact getP_any fun d' h' => h d' (List.mem_cons_of_mem _ h')
theorem sdP_col {n v : Str} (hn : n ∈ NL) {t : List PyData} (ht : ∀ d ∈ t, d ∈ PL) : (sdP n v t).1 = if t.any (fun d => col d == col (pr n v)) then t else t ++ [pr n v] := by
  have e : t.any (fun d => lowK d == Txt.lower n) = t.any fun d => col d == col (pr n v) := any_congr fun d hd => col_same hn (ht d hd)
  have g := getP_any (n := n) ht
  rw [e] at g
  unfold sdP
  split at g
  · rename_i c
    obtain ⟨u, g⟩ := g
    rw [g, if_pos c]
  · rename_i c
    rw [g, if_neg c]
theorem doP_col {c : Cl} (hc : c ∈ CL) {t : List PyData} (ht : ∀ d ∈ t, d ∈ PL) : doP c t = stepX col (toX c) t := by
  obtain ⟨_, hn, _⟩ := CL_in hc
  unfold doP callP stepX toX
  rw [delP_col (v := c.2.2) hn ht, sdP_col hn ht]
theorem doP_PL {c : Cl} (hc : c ∈ CL) {t : List PyData} (ht : ∀ d ∈ t, d ∈ PL) : ∀ d ∈ doP c t, d ∈ PL := by
  rw [doP_col hc ht]
  have f : ∀ d ∈ t.filter (fun d => !(col d == col (toX c).2)), d ∈ PL := fun d h => ht d (List.mem_filter.mp h).1
  have s : ∀ l : List PyData, (∀ d ∈ l, d ∈ PL) → ∀ d ∈ l ++ [(toX c).2], d ∈ PL := fun l hl d h => (List.mem_append.mp h).elim (hl d) fun z => by rw [List.mem_singleton.mp z]; exact CL_PL hc
  unfold stepX
  split
  · exact s _ f
  split
  · exact f
  split
  · exact s _ ht
  split
  · exact ht
  · exact s _ ht
theorem runD_col : ∀ (l : List Cl) (t : List PyData), (∀ c ∈ l, c ∈ CL) → (∀ d ∈ t, d ∈ PL) → runD l t = runX col (l.map toX) t
  | [], _, _, _ => rfl
  | c :: l, t, hc, ht => by
    show runD l (doP c t) = runX col (l.map toX) (stepX col (toX c) t)
    rw [← doP_col (hc c List.mem_cons_self) ht]
    exact runD_col l _ (fun c' h' => hc c' (List.mem_cons_of_mem _ h')) (doP_PL (hc c List.mem_cons_self) ht)
theorem perm_lift {X Y : Type} {f : X → Y} {o p : List Y} (h : o.Perm p) : ∀ l : List X, p = l.map f → ∃ l' : List X, l'.Perm l ∧ o = l'.map f := by
  induction h with
  | nil => exact fun l e => ⟨[], by rw [List.map_eq_nil_iff.mp e.symm], rfl⟩
  | cons y _ ih =>
    intro l e
    obtain ⟨a, l2, rfl, rfl, rfl⟩ := List.map_eq_cons_iff.mp e.symm
    obtain ⟨l', q, rfl⟩ := ih l2 rfl
    exact ⟨a :: l', q.cons a, rfl⟩
  | swap x y _ =>
    intro l e
    obtain ⟨a, l2, rfl, rfl, e2⟩ := List.map_eq_cons_iff.mp e.symm
    obtain ⟨b, l3, rfl, rfl, rfl⟩ := List.map_eq_cons_iff.mp e2
    exact ⟨b :: a :: l3, List.Perm.swap _ _ _, rfl⟩
  | trans _ _ ih1 ih2 =>
    intro l e
    obtain ⟨l2, q2, e2⟩ := ih2 l e
    obtain ⟨l1, q1, e1⟩ := ih1 l2 e2
    exact ⟨l1, q1.trans q2, e1⟩
theorem shuf_iff : ∀ (m : Nat) (l r : List PyData), (∀ d ∈ l, col d = true) → (∀ d ∈ r, col d = false) → l.length + r.length ≤ m → ∀ x, x ∈ shufN m l r ↔ x.filter (fun d => col d == true) = l ∧ x.filter (fun d => col d == false) = r := by
  have tr : ∀ {l : List PyData} {b : Bool}, (∀ d ∈ l, col d = b) → l.filter (fun d => col d == b) = l := fun h => filt_col col _ h
  have fl : ∀ {l : List PyData} {b b' : Bool}, b ≠ b' → (∀ d ∈ l, col d = b) → l.filter (fun d => col d == b') = [] := fun n h => List.filter_eq_nil_iff.mpr fun d hd z => n ((h d hd).symm.trans (beq_iff_eq.mp z))
  have two : ∀ l r : List PyData, (∀ d ∈ l, col d = true) → (∀ d ∈ r, col d = false) → (l = [] ∨ r = []) → ∀ x, x = l ++ r ↔ x.filter (fun d => col d == true) = l ∧ x.filter (fun d => col d == false) = r := fun l r hl hr hn x => by
    constructor
    · rintro rfl
      rw [List.filter_append, List.filter_append, tr hl, tr hr, fl (by decide) hl, fl (by decide) hr, List.append_nil]
      exact ⟨rfl, rfl⟩
    · rintro ⟨h1, h2⟩
      rcases hn with rfl | rfl
      · have : ∀ d ∈ x, col d = false := fun d hd => by
          have := List.filter_eq_nil_iff.mp h1 d hd
          cases q : col d with
          | false => rfl
          | true => exact absurd (beq_iff_eq.mpr q) this
        rw [← h2, tr this]; rfl
      · have : ∀ d ∈ x, col d = true := fun d hd => by
          have := List.filter_eq_nil_iff.mp h2 d hd
          cases q : col d with
          | true => rfl
          | false => exact absurd (beq_iff_eq.mpr q) this
        rw [← h1, tr this, List.append_nil]
  intro m
  induction m with
  | zero =>
    intro l r hl hr h x
    have : l = [] := List.eq_nil_of_length_eq_zero (by omega)
    show x ∈ [l ++ r] ↔ _
    rw [List.mem_singleton]
    exact two l r hl hr (.inl this) x
  | succ m ih =>
    intro l r hl hr h x
    have en : shufN (m + 1) l r = if l.isEmpty || r.isEmpty then [l ++ r] else (shufN m l.tail r).map (fun x => l.headD .none :: x) ++ (shufN m l r.tail).map fun x => r.headD .none :: x := rfl
    rw [en]
    cases l with
    | nil =>
      show x ∈ [[] ++ r] ↔ _
      rw [List.mem_singleton]
      exact two [] r hl hr (.inl rfl) x
    | cons a l =>
      cases r with
      | nil =>
        show x ∈ [a :: l ++ []] ↔ _
        rw [List.mem_singleton]
        exact two (a :: l) [] hl hr (.inr rfl) x
      | cons b r =>
        show x ∈ (shufN m l (b :: r)).map (fun x => a :: x) ++ (shufN m (a :: l) r).map (fun x => b :: x) ↔ _
        have ha := hl a List.mem_cons_self
        have hb := hr b List.mem_cons_self
        rw [List.length_cons, List.length_cons] at h
        have i1 := ih l (b :: r) (fun d hd => hl d (List.mem_cons_of_mem _ hd)) hr (by rw [List.length_cons]; omega)
        have i2 := ih (a :: l) r hl (fun d hd => hr d (List.mem_cons_of_mem _ hd)) (by rw [List.length_cons]; omega)
        have cT : ∀ (c : PyData) y, col c = true → (c :: y).filter (fun d => col d == true) = c :: y.filter (fun d => col d == true) ∧ (c :: y).filter (fun d => col d == false) = y.filter fun d => col d == false := fun c y q => by
          rw [List.filter_cons, List.filter_cons, q]; exact ⟨rfl, rfl⟩
        have cF : ∀ (c : PyData) y, col c = false → (c :: y).filter (fun d => col d == true) = y.filter (fun d => col d == true) ∧ (c :: y).filter (fun d => col d == false) = c :: y.filter fun d => col d == false := fun c y q => by
          rw [List.filter_cons, List.filter_cons, q]; exact ⟨rfl, rfl⟩
        rw [List.mem_append]
        constructor
        · rintro (h | h)
          · obtain ⟨y, hy, rfl⟩ := List.mem_map.mp h
            obtain ⟨y1, y2⟩ := (i1 y).mp hy
            rw [(cT a y ha).1, (cT a y ha).2, y1]
            exact ⟨rfl, y2⟩
          · obtain ⟨y, hy, rfl⟩ := List.mem_map.mp h
            obtain ⟨y1, y2⟩ := (i2 y).mp hy
            rw [(cF b y hb).1, (cF b y hb).2, y2]
            exact ⟨y1, rfl⟩
        · rintro ⟨h1, h2⟩
          cases x with
          | nil => cases h1
          | cons c y =>
            cases q : col c with
            | true =>
              rw [(cT c y q).1] at h1
              rw [(cT c y q).2] at h2
              injection h1 with e1 e2
              subst e1
              exact .inl (List.mem_map.mpr ⟨y, (i1 y).mpr ⟨e2, h2⟩, rfl⟩)
            | false =>
              rw [(cF c y q).1] at h1
              rw [(cF c y q).2] at h2
              injection h2 with e1 e2
              subst e1
              exact .inr (List.mem_map.mpr ⟨y, (i2 y).mpr ⟨h1, e2⟩, rfl⟩)
theorem calls_ofc {cs : List Cl} (hc : ∀ c ∈ cs, c ∈ CL) (b : Bool) : ofc col b (cs.map toX) = (callsL (letB b) cs).map toX := by
  unfold ofc callsL
  rw [List.filter_map]
  congr 1
  refine filt_congr fun c h => ?_
  exact (key_l (low_in (CL_in (hc c h)).2.1) b).symm
theorem kd_pick (k : Nat) (cs : List Cl) : kd k (cs.map toX) = cs.filterMap (pickK k) := by
  unfold kd
  rw [List.filterMap_map]
  rfl
theorem del_name (cs : List Cl) : cs.filterMap (nameK 1) ≠ [] ↔ ∃ c ∈ cs.map toX, c.1 = 1 := by
  constructor
  · intro h
    obtain ⟨y, hy⟩ := List.exists_mem_of_ne_nil _ h
    obtain ⟨c, hc, e⟩ := List.mem_filterMap.mp hy
    refine ⟨toX c, List.mem_map.mpr ⟨c, hc, rfl⟩, ?_⟩
    unfold nameK at e
    by_cases q : c.1 = 1
    · exact q
    · rw [if_neg q] at e; cases e
  · rintro ⟨x, hx, e⟩ h
    obtain ⟨c, hc, rfl⟩ := List.mem_map.mp hx
    have : PyData.str c.2.1 ∈ cs.filterMap (nameK 1) := List.mem_filterMap.mpr ⟨c, hc, if_pos e⟩
    rw [h] at this
    cases this
theorem stood_any {ps : List PyData} (hp : ∀ d ∈ ps, d ∈ PL) (b : Bool) : stoodB (letB b) ps = ps.any fun d => col d == b := by
  unfold stoodB pairsL
  rw [filt_congr (q := fun d => col d == b) fun d hd => key_l (lowK_in (hp d hd)) b, Bool.eq_iff_iff, Bool.not_eq_true', List.any_eq_true]
  constructor
  · intro h
    cases q : ps.filter fun d => col d == b with
    | nil => rw [q] at h; cases h
    | cons d l =>
      have : d ∈ ps.filter fun d => col d == b := by rw [q]; exact List.mem_cons_self
      exact ⟨d, (List.mem_filter.mp this).1, (List.mem_filter.mp this).2⟩
  · rintro ⟨d, hd, e⟩
    have : d ∈ ps.filter fun d => col d == b := List.mem_filter.mpr ⟨hd, e⟩
    cases q : ps.filter fun d => col d == b with
    | nil => rw [q] at this; cases this
    | cons => rfl
theorem rowsOf_iff {cs : List Cl} (hc : ∀ c ∈ cs, c ∈ CL) (hl : cs.length ≤ 4) {ps : List PyData} (hp : ∀ d ∈ ps, d ∈ PL) (b : Bool) (row : List PyData) :
    row ∈ rowsOf (letB b) cs ps ↔ RowOf (ps.any (fun d => col d == b) = true) (kd 0 (ofc col b (cs.map toX))) (kd 2 (ofc col b (cs.map toX))) (kd 3 (ofc col b (cs.map toX))) (∃ c ∈ ofc col b (cs.map toX), c.1 = 1) row := by
  refine (rowsN_iff (show (callsL (letB b) cs).length ≤ 4 from Nat.le_trans (List.length_filter_le _ _) hl) row).trans ?_
  rw [stood_any hp, calls_ofc hc, kd_pick, kd_pick, kd_pick, ← propext (del_name _)]
theorem head_gone {cs : List Cl} (hc : ∀ c ∈ cs, c ∈ CL) {ps : List PyData} (hp : ∀ d ∈ ps, d ∈ PL) : headP cs ps = ps.filter fun d => !goneX col (cs.map toX) d := by
  unfold headP
  refine filt_congr fun d hd => ?_
  congr 1
  unfold goneB goneX
  rw [List.any_map]
  refine any_congr fun c h => ?_
  show (decide (c.1 < 2) && _) = (decide (c.1 < 2) && _)
  congr 1
  exact key (low_in (CL_in (hc c h)).2.1) (lowK_in (hp d hd))
/-- played and told are the same tables -/
theorem played_told {cs : List Cl} (hc : ∀ c ∈ cs, c ∈ CL) (hl : cs.length = 4) {ps : List PyData} (hp : ∀ d ∈ ps, d ∈ PL) (t : List PyData) :
    (∃ l ∈ pickG zC 4 cs, l.length = 4 ∧ t = runD l ps) ↔ ∃ u ∈ rowsOf "a" cs ps, ∃ v ∈ rowsOf "b" cs ps, ∃ row ∈ shufN 5 u v, t = headP cs ps ++ row := by
  have hk : ∀ c ∈ cs.map toX, c.1 < 4 := fun c h => by
    obtain ⟨c', h', rfl⟩ := List.mem_map.mp h
    exact (CL_in (hc c' h')).1
  have left : (∃ l ∈ pickG zC 4 cs, l.length = 4 ∧ t = runD l ps) ↔ ∃ o : List (Nat × PyData), o.Perm (cs.map toX) ∧ t = runX col o ps := by
    constructor
    · rintro ⟨l, m, e, rfl⟩
      have p : l.Perm cs := SubP.whole.mp ⟨(pickG_iff zC 4 cs (by omega) l).mp m, e.trans hl.symm⟩
      exact ⟨l.map toX, p.map _, runD_col l ps (fun c h => hc c (p.mem_iff.mp h)) hp⟩
    · rintro ⟨o, p, rfl⟩
      obtain ⟨l, q, rfl⟩ := perm_lift p cs rfl
      obtain ⟨q1, q2⟩ := SubP.whole.mpr q
      exact ⟨l, (pickG_iff zC 4 cs (by omega) l).mpr q1, q2.trans hl, (runD_col l ps (fun c h => hc c (q.mem_iff.mp h)) hp).symm⟩
  have cc : ∀ l, ∀ c ∈ callsL l cs, c ∈ CL := fun l c h => hc c (List.mem_filter.mp h).1
  have cl : ∀ l, (callsL l cs).length ≤ 4 := fun l => Nat.le_trans (List.length_filter_le _ _) (by omega)
  have ab := ab_len cs
  have colr : ∀ b, ∀ u ∈ rowsOf (letB b) cs ps, ∀ d ∈ u, col d = b := fun b u hu d hd => by
    have z := ((rowsOf_iff hc (by omega) hp b u).mp hu).facts.2 d hd
    have k : ∀ k, d ∈ kd k (ofc col b (cs.map toX)) → col d = b := fun k h => by
      obtain ⟨c, m, e⟩ := List.mem_filterMap.mp h
      by_cases q : c.1 = k
      · rw [if_pos q] at e
        rw [← Option.some.inj e]
        exact beq_iff_eq.mp (List.mem_filter.mp m).2
      · rw [if_neg q] at e; cases e
    rcases z with z | z | z
    · exact k 0 z
    · exact k 2 z
    · exact k 3 z
  have lens : ∀ u ∈ rowsOf "a" cs ps, ∀ v ∈ rowsOf "b" cs ps, u.length + v.length ≤ 5 := fun u hu v hv => by
    have h1 := (rowsN_row (cc "a") (cl "a") u hu).1
    have h2 := (rowsN_row (cc "b") (cl "b") v hv).1
    omega
  rw [left, orders_iff col hk, ← head_gone hc hp]
  constructor
  · rintro ⟨T, h, rfl⟩
    have h1 := (rowsOf_iff hc (by omega) hp true _).mpr (h true)
    have h2 := (rowsOf_iff hc (by omega) hp false _).mpr (h false)
    exact ⟨_, h1, _, h2, T, (shuf_iff 5 _ _ (colr true _ h1) (colr false _ h2) (lens _ h1 _ h2) T).mpr ⟨rfl, rfl⟩, rfl⟩
  · rintro ⟨u, hu, v, hv, T, hT, rfl⟩
    obtain ⟨e1, e2⟩ := (shuf_iff 5 u v (colr true u hu) (colr false v hv) (lens u hu v hv) T).mp hT
    refine ⟨T, fun b => ?_, rfl⟩
    cases b
    · rw [e2]
      exact (rowsOf_iff hc (by omega) hp false v).mp hv
    · rw [e1]
      exact (rowsOf_iff hc (by omega) hp true u).mp hu
end Mine

namespace Mine
open PySem PySem.Calls PySem.Spec PyProof.Rows PySem.W PySem.SeqAt

/-! law: its statements, for any table of functions and any sorted -/
noncomputable abbrev Rs (fn : Tbl) (srt : PyData → Option PyData) (n : Nat) := ev ⟨fn, HE⟩ srt n
noncomputable abbrev fLaw := topFn pw "law"
noncomputable abbrev SLf (fn : Tbl) (srt : PyData → Option PyData) (st : Stmt) (ρ : Rho) := (HS (Rs fn srt 40) fLaw.scope ρ st).or (ex1 (Rs fn srt 40) [] fLaw.scope (exs (Rs fn srt 40) [] fLaw.scope HS 9) ρ st)
noncomputable abbrev drLC := lcOf (rhsOf (stAt fLaw.body 0))
noncomputable abbrev clLC := lcOf (rhsOf (stAt fLaw.body 5))
theorem lw_body : fLaw.body = [stAt fLaw.body 0, stAt fLaw.body 1, stAt fLaw.body 2, stAt fLaw.body 3, stAt fLaw.body 4, stAt fLaw.body 5, stAt fLaw.body 6] := by kernel_rfl
theorem dr_lc : drLC.2.1 = [gAt drLC.2.1] := by kernel_rfl
theorem cl_lc : clLC.2.1 = [gAt clLC.2.1] := by kernel_rfl
noncomputable def XL3 : List Str := ["", "x", "y"]
noncomputable def N5 (a b c d e : Int) : PyData := .list [.int a, .int b, .int c, .int d, .int e]
section
variable (fn : Tbl) (srt : PyData → Option PyData)
theorem dr_item (x : Int) : evG1 (Rs fn srt 39) drLC.2.2 (relabelS drLC.2.2 fLaw.scope) drLC.1 (gAt drLC.2.1) [] (.int x) = some (some (.int (x.fmod 1000000))) := by kernel_rfl
theorem lw_s0 (ds : List PyData) : SLf fn srt (stAt fLaw.body 0) (rho0 ["script"] [.list ds]) =
    ((evG (Rs fn srt 39) drLC.2.2 (relabelS drLC.2.2 fLaw.scope) drLC.1 drLC.2.1 [] ((cutD (.list ds) none (some 5) none).bind listOf)).bind mkList).bind fun d => some (.next, (rho0 ["script"] [.list ds]).set "drawn" (.val d)) := by kernel_rfl
noncomputable def lw1 (sc : PyData) (D : List PyData) : Rho := [("drawn", .val (.list D)), ("script", .val sc)]
noncomputable def lw2 (sc : PyData) (D : List PyData) (N : PyData) : Rho := [("numbers", .val N), ("drawn", .val (.list D)), ("script", .val sc)]
noncomputable abbrev S1At (sc : PyData) (D : List PyData) := SLf fn srt (stAt fLaw.body 1) (lw1 sc D)
theorem lw_s1_0 (sc : PyData) : S1At fn srt sc [] = some (.next, lw2 sc [] (N5 20 5 15 30 22)) := by kernel_rfl
theorem lw_s1_1 (sc : PyData) (a : Int) : S1At fn srt sc [.int a] = some (.next, lw2 sc [.int a] (N5 a 5 15 30 22)) := by kernel_rfl
theorem lw_s1_2 (sc : PyData) (a b : Int) : S1At fn srt sc [.int a, .int b] = some (.next, lw2 sc [.int a, .int b] (N5 a b 15 30 22)) := by kernel_rfl
theorem lw_s1_3 (sc : PyData) (a b c : Int) : S1At fn srt sc [.int a, .int b, .int c] = some (.next, lw2 sc [.int a, .int b, .int c] (N5 a b c 30 22)) := by kernel_rfl
theorem lw_s1_4 (sc : PyData) (a b c d : Int) : S1At fn srt sc [.int a, .int b, .int c, .int d] = some (.next, lw2 sc [.int a, .int b, .int c, .int d] (N5 a b c d 22)) := by kernel_rfl
theorem lw_s1_5 (sc : PyData) (a b c d e : Int) : S1At fn srt sc [.int a, .int b, .int c, .int d, .int e] = some (.next, lw2 sc [.int a, .int b, .int c, .int d, .int e] (N5 a b c d e)) := by kernel_rfl
noncomputable def namesD : PyData := .list (NL.map .str)
noncomputable def valsD : PyData := .list (XL3.map .str)
noncomputable def lw3 (sc : PyData) (D : List PyData) (N : PyData) : Rho := ("names", .val namesD) :: lw2 sc D N
noncomputable def lw4 (b sc : PyData) (D : List PyData) (N : PyData) : Rho := ("both", .val b) :: lw3 sc D N
noncomputable def lw5 (p b sc : PyData) (D : List PyData) (N : PyData) : Rho := ("pairs", .val p) :: lw4 b sc D N
noncomputable def lw6 (c p b sc : PyData) (D : List PyData) (N : PyData) : Rho := ("calls", .val c) :: lw5 p b sc D N
variable (sc b p q : PyData) (D : List PyData) (N : PyData) (a1 a2 a3 a4 a5 : Int)
theorem lw_s2 : SLf fn srt (stAt fLaw.body 2) (lw2 sc D N) = some (.next, lw3 sc D N) := by kernel_rfl
noncomputable def pairI (k : Int) (v : Str) : Option PyData := (((idxD namesD (.int k)).bind fun d => some [d, .str v])).bind fun ds => if ds.length ≤ top then some (.tuple ds) else none
theorem lw_s3 : SLf fn srt (stAt fLaw.body 3) (lw3 sc D (N5 a1 a2 a3 a4 a5)) = (((pairI ((a1.fdiv 3).fmod 3) "0").bind fun x => ((pairI ((a1.fdiv 9).fmod 3) "1").bind fun y => some [y]).bind fun ds => some (x :: ds)).bind mkList).bind fun d => some (.next, lw4 d sc D (N5 a1 a2 a3 a4 a5)) := by kernel_rfl
theorem lw_s4 (B : List PyData) : SLf fn srt (stAt fLaw.body 4) (lw4 (.list B) sc D (N5 a1 a2 a3 a4 a5)) = (cutD (.list B) none (some (a1.fmod 3)) none).bind fun d => some (.next, lw5 d (.list B) sc D (N5 a1 a2 a3 a4 a5)) := by kernel_rfl
theorem lw_s5 : SLf fn srt (stAt fLaw.body 5) (lw5 p b sc D (N5 a1 a2 a3 a4 a5)) = ((evG (Rs fn srt 39) clLC.2.2 (relabelS clLC.2.2 fLaw.scope) clLC.1 clLC.2.1 [("names", .val namesD)] (some [.int a2, .int a3, .int a4, .int a5])).bind mkList).bind fun d => some (.next, lw6 d p b sc D (N5 a1 a2 a3 a4 a5)) := by kernel_rfl
theorem cl_item (x : Int) : evG1 (Rs fn srt 39) clLC.2.2 (relabelS clLC.2.2 fLaw.scope) clLC.1 (gAt clLC.2.1) [("names", .val namesD)] (.int x) = ((((idxD namesD (.int ((x.fdiv 4).fmod 3))).bind fun n => ((idxD valsD (.int ((x.fdiv 12).fmod 3))).bind fun v => some [v]).bind fun ds => some (n :: ds)).bind fun ds => some (.int (x.fmod 4) :: ds)).bind fun ds => if ds.length ≤ top then some (.tuple ds) else none).map some := by kernel_rfl
theorem lw_s6 : SLf fn srt (stAt fLaw.body 6) (lw6 q p b sc D N) = (((fn "_law_played" [p, q]).bind srt).bind fun x => ((fn "_law_told" [p, q]).bind srt).bind fun y => cmpD .Eq x y).bind fun d => some (.ret d, freeze (lw6 q p b sc D N)) := by kernel_rfl
end
end Mine

namespace Mine
open PySem PySem.Calls PySem.Spec PyProof.Rows PySem.W PySem.SeqAt

/-! sorted, of tables -/
noncomputable def rk : PyData → Nat
  | .tuple [.str n, .str v] => 5 * ((["A", "a", "b"] : List Str).findIdx (· == n)) + ((["", "0", "1", "x", "y"] : List Str).findIdx (· == v)) + 1
  | _ => 0
theorem PL_rk : PL.all (fun a => decide (1 ≤ rk a) && decide (rk a ≤ 15) && isT a && PL.all fun b => (tLt a b == decide (rk a < rk b)) && (PyData.eqv a b == (rk a == rk b))) = true := by decide +kernel
theorem rk_f {a : PyData} (ha : a ∈ PL) : 1 ≤ rk a ∧ rk a ≤ 15 ∧ isT a = true := by
  have := List.all_eq_true.mp PL_rk a ha
  simp only [Bool.and_eq_true, decide_eq_true_eq] at this
  exact ⟨this.1.1.1, this.1.1.2, this.1.2⟩
theorem rk_lt {a b : PyData} (ha : a ∈ PL) (hb : b ∈ PL) : tLt a b = decide (rk a < rk b) ∧ PyData.eqv a b = (rk a == rk b) := by
  have h := List.all_eq_true.mp PL_rk a ha
  rw [Bool.and_eq_true] at h
  have := List.all_eq_true.mp h.2 b hb
  rw [Bool.and_eq_true, beq_iff_eq, beq_iff_eq] at this
  exact this
theorem rk_inj {a b : PyData} (ha : a ∈ PL) (hb : b ∈ PL) (e : rk a = rk b) : a = b := by
  have := (rk_lt ha hb).2
  rw [e, beq_self_eq_true] at this
  exact (eqv_iff (PL_small ha).2.1 (PL_small ha).1).mp this
noncomputable def keyN : Nat → List PyData → Nat
  | 0, _ => 0
  | _ + 1, [] => 0
  | n + 1, d :: l => rk d * 16 ^ n + keyN n l
theorem keyN_lt : ∀ (n : Nat) (l : List PyData), (∀ d ∈ l, d ∈ PL) → keyN n l < 16 ^ n
  | 0, _, _ => by show 0 < 1; omega
  | n + 1, [], _ => Nat.pow_pos (by omega)
  | n + 1, d :: l, h => by
    have ih := keyN_lt n l fun x hx => h x (List.mem_cons_of_mem _ hx)
    have r := (rk_f (h d List.mem_cons_self)).2.1
    show rk d * 16 ^ n + keyN n l < 16 ^ (n + 1)
    have : rk d * 16 ^ n ≤ 15 * 16 ^ n := Nat.mul_le_mul_right _ r
    rw [Nat.pow_succ]
    omega
theorem lead {a b P x y : Nat} (h : a < b) (hx : x < P) : a * P + x < b * P + y := by
  have : (a + 1) * P ≤ b * P := Nat.mul_le_mul_right _ h
  rw [Nat.add_mul, Nat.one_mul] at this
  omega
theorem lex_key : ∀ (n : Nat) (as bs : List PyData), (∀ d ∈ as, d ∈ PL) → (∀ d ∈ bs, d ∈ PL) → as.length ≤ n → bs.length ≤ n → lexP tLt as bs = decide (keyN n as < keyN n bs) ∧ (keyN n as = keyN n bs → as = bs)
  | 0, as, bs, _, _, ha, hb => by
    have e1 : as = [] := List.eq_nil_of_length_eq_zero (by omega)
    have e2 : bs = [] := List.eq_nil_of_length_eq_zero (by omega)
    subst e1 e2
    exact ⟨rfl, fun _ => rfl⟩
  | n + 1, [], [], _, _, _, _ => ⟨rfl, fun _ => rfl⟩
  | n + 1, [], b :: bs, _, hB, _, _ => by
    have r := (rk_f (hB b List.mem_cons_self)).1
    have p : 1 * 16 ^ n ≤ rk b * 16 ^ n := Nat.mul_le_mul_right _ r
    have p2 : 0 < 16 ^ n := Nat.pow_pos (by omega)
    have k : 0 < rk b * 16 ^ n + keyN n bs := by omega
    exact ⟨(decide_eq_true k).symm, fun e => by change 0 = _ + _ at e; omega⟩
  | n + 1, a :: as, [], hA, _, _, _ => by
    have r := (rk_f (hA a List.mem_cons_self)).1
    have p : 1 * 16 ^ n ≤ rk a * 16 ^ n := Nat.mul_le_mul_right _ r
    have p2 : 0 < 16 ^ n := Nat.pow_pos (by omega)
    exact ⟨(decide_eq_false (Nat.not_lt_zero _)).symm, fun e => by change _ + _ = 0 at e; omega⟩
  | n + 1, a :: as, b :: bs, hA, hB, ha, hb => by
    rw [List.length_cons] at ha hb
    have A := hA a List.mem_cons_self
    have B := hB b List.mem_cons_self
    have hA' : ∀ d ∈ as, d ∈ PL := fun d h => hA d (List.mem_cons_of_mem _ h)
    have hB' : ∀ d ∈ bs, d ∈ PL := fun d h => hB d (List.mem_cons_of_mem _ h)
    obtain ⟨i1, i2⟩ := lex_key n as bs hA' hB' (by omega) (by omega)
    have l1 := keyN_lt n as hA'
    have l2 := keyN_lt n bs hB'
    show (if PyData.eqv a b = true then lexP tLt as bs else tLt a b) = decide (rk a * 16 ^ n + keyN n as < rk b * 16 ^ n + keyN n bs) ∧ (rk a * 16 ^ n + keyN n as = rk b * 16 ^ n + keyN n bs → a :: as = b :: bs)
    rw [(rk_lt A B).2, (rk_lt A B).1]
    by_cases e : rk a = rk b
    · rw [e, beq_self_eq_true, if_pos rfl, i1]
      refine ⟨?_, fun h => ?_⟩
      · rw [Bool.eq_iff_iff, decide_eq_true_eq, decide_eq_true_eq]; omega
      · rw [rk_inj A B e, i2 (by omega)]
    · rw [if_neg (fun z => e (beq_iff_eq.mp z))]
      rcases Nat.lt_or_gt_of_ne e with h | h
      · have := lead (y := keyN n bs) h l1
        exact ⟨by rw [decide_eq_true h, decide_eq_true this], fun z => by omega⟩
      · have := lead (y := keyN n as) h l2
        exact ⟨by rw [decide_eq_false (by omega), decide_eq_false (by omega)], fun z => by omega⟩
noncomputable def keyD (d : PyData) : Nat := keyN 12 (itemsOf d)
theorem okL_tab {t : List PyData} (h : okPs t = true) : okL (.list t) = true := by
  have p := okPs_PL h
  have s := tab_small p
  unfold okL
  rw [s.1, decide_eq_true (by have := s.2.2; omega)]
  show (t.all isT && true && true) = true
  rw [List.all_eq_true.mpr fun d hd => (rk_f (p d hd)).2.2]; rfl
theorem ltL_key {t u : List PyData} (ht : okPs t = true) (hu : okPs u = true) : ltL (.list t) (.list u) = some (decide (keyD (.list t) < keyD (.list u))) := by
  refine (if_pos (by rw [okL_tab ht, okL_tab hu]; rfl)).trans ?_
  exact congrArg some (lex_key 12 t u (okPs_PL ht) (okPs_PL hu) (okPs_len ht) (okPs_len hu)).1
theorem nd_map {α β : Type} {f : α → β} : ∀ {l : List α}, l.Nodup → (∀ a ∈ l, ∀ b ∈ l, f a = f b → a = b) → (l.map f).Nodup
  | [], _, _ => List.nodup_nil
  | a :: l, nd, inj => by
    rw [List.map_cons, List.nodup_cons]
    rw [List.nodup_cons] at nd
    refine ⟨fun m => ?_, nd_map nd.2 fun x hx y hy => inj x (List.mem_cons_of_mem _ hx) y (List.mem_cons_of_mem _ hy)⟩
    obtain ⟨b, hb, e⟩ := List.mem_map.mp m
    exact nd.1 ((inj b (List.mem_cons_of_mem _ hb) a List.mem_cons_self e) ▸ hb)
theorem srtL_perm {R T : List (List PyData)} (hp : T.Perm R) (hok : ∀ t ∈ R, okPs t = true) (nd : R.Nodup) (h64 : R.length < 64) : ∃ es : List (List PyData), es.Perm R ∧ srtL (.list (LF R)) = some (.list (LF es)) ∧ srtL (.list (LF T)) = some (.list (LF es)) := by
  have hokT : ∀ t ∈ T, okPs t = true := fun t ht => hok t (hp.mem_iff.mp ht)
  have en : ∀ L : List (List PyData), srtL (.list (LF L)) = if (LF L).length < 2 then some (.list (LF L)) else if (LF L).length < 64 then (if (LF L).all okL then (sortBy ltL (LF L)).map .list else none) else none := fun _ => rfl
  by_cases h2 : R.length < 2
  · have eT : T = R := by
      match R, h2 with
      | [], _ => rw [List.perm_nil.mp hp]
      | [d], _ => rw [List.perm_singleton.mp hp]
      | _ :: _ :: _, h2 => simp at h2; omega
    subst eT
    exact ⟨T, List.Perm.refl _, by rw [en, if_pos (by rw [List.length_map]; exact h2)], by rw [en, if_pos (by rw [List.length_map]; exact h2)]⟩
  · have nk : ∀ L : List (List PyData), (∀ t ∈ L, okPs t = true) → L.Nodup → ((LF L).map keyD).Nodup := fun L hL nL => by
      rw [List.map_map]
      exact nd_map nL fun a ha b hb e => (lex_key 12 a b (okPs_PL (hL a ha)) (okPs_PL (hL b hb)) (okPs_len (hL a ha)) (okPs_len (hL b hb))).2 e
    have lt : ∀ L : List (List PyData), (∀ t ∈ L, okPs t = true) → ∀ a ∈ LF L, ∀ b ∈ LF L, keyD a ≠ keyD b → ltL a b = some (decide (keyD a < keyD b)) := fun L hL a ha b hb _ => by
      obtain ⟨t, ht, rfl⟩ := List.mem_map.mp ha
      obtain ⟨u, hu, rfl⟩ := List.mem_map.mp hb
      exact ltL_key (hL t ht) (hL u hu)
    have run : ∀ L : List (List PyData), (∀ t ∈ L, okPs t = true) → L.Nodup → 2 ≤ L.length → L.length < 64 → ∃ es, srtL (.list (LF L)) = some (.list es) ∧ es.Perm (LF L) ∧ es.Pairwise fun a b => keyD a < keyD b := fun L hL nL l2 l64 => by
      obtain ⟨es, e1, e2, e3⟩ := sortBy_spec (lt := ltL) (key := keyD) (by rw [List.length_map]; omega) (lt L hL) (nk L hL nL)
      refine ⟨es, ?_, e2, e3⟩
      rw [en, if_neg (by rw [List.length_map]; omega), if_pos (by rw [List.length_map]; omega), if_pos (List.all_eq_true.mpr fun d hd => by
        obtain ⟨t, ht, rfl⟩ := List.mem_map.mp hd
        exact okL_tab (hL t ht)), e1]
      rfl
    obtain ⟨es, e1, e2, e3⟩ := run R hok nd (by omega) h64
    obtain ⟨fs, f1, f2, f3⟩ := run T hokT (hp.nodup_iff.mpr nd) (by rw [hp.length_eq]; omega) (by rw [hp.length_eq]; exact h64)
    have same : fs = es := List.Perm.eq_of_pairwise (le := fun a b => keyD a < keyD b) (fun a b _ _ x y => by omega) f3 e3 (f2.trans ((hp.map _).trans e2.symm))
    subst same
    obtain ⟨g, q, rfl⟩ := perm_lift e2 R rfl
    exact ⟨g, q, e1, f1⟩
end Mine

namespace Mine
open PySem PySem.Calls PySem.Spec PyProof.Rows PySem.W PySem.SeqAt

/-! law: the run -/
noncomputable def FL (f : Str) (args : List PyData) : Option PyData :=
  if f == ("_law_played" : Str) then runB (XPl (FP 5) 10 fPl.body) ["pairs", "calls"] args
  else if f == ("_law_told" : Str) then runB (XT FT 10 fTo.body) ["pairs", "calls"] args
  else none
theorem fl_pl (args : List PyData) : FL "_law_played" args = runB (XPl (FP 5) 10 fPl.body) ["pairs", "calls"] args := if_pos (by rfl)
theorem fl_to (args : List PyData) : FL "_law_told" args = runB (XT FT 10 fTo.body) ["pairs", "calls"] args := (if_neg (by decide +kernel)).trans (if_pos (by rfl))
theorem ft_ro (args : List PyData) : FT "_law_rows" args = runF (Rf (FP 5) 40) HS ["rows"] 10 ["stood", "calls"] fRo.body fRo.scope args := if_pos (by rfl)
theorem ft_sh (args : List PyData) : FT "_law_shuffles" args = FS 6 "_law_shuffles" args := if_neg (by decide +kernel)
theorem fmod_k (z : Int) {m : Nat} (h : 0 < m) : ∃ k, k ∈ List.range m ∧ z.fmod m = (k : Int) := by
  have h1 := Int.fmod_nonneg_of_pos z (show (0 : Int) < m by omega)
  have h2 := Int.fmod_lt_of_pos z (show (0 : Int) < m by omega)
  exact ⟨(z.fmod m).toNat, List.mem_range.mpr (by omega), by omega⟩
theorem name_at : (List.range 3).map (fun (k : Nat) => idxD namesD (.int k)) = (List.range 3).map fun (k : Nat) => some (.str (NL.getD k "a")) := by kernel_rfl
theorem val_at : (List.range 3).map (fun (k : Nat) => idxD valsD (.int k)) = (List.range 3).map fun (k : Nat) => some (.str (XL3.getD k "")) := by kernel_rfl
theorem name_in : ∀ k ∈ List.range 3, NL.getD k "a" ∈ NL := by decide +kernel
theorem val_in : ∀ k ∈ List.range 3, XL3.getD k "" ∈ VL := by decide +kernel
theorem pair_at (z : Int) (v : Str) : ∃ n ∈ NL, pairI (z.fmod 3) v = some (pr n v) := by
  obtain ⟨k, hk, e⟩ := fmod_k z (m := 3) (by omega)
  refine ⟨NL.getD k "a", name_in k hk, ?_⟩
  rw [show z.fmod 3 = (k : Int) from e]
  unfold pairI
  rw [of_map_eq name_at k hk]
  rfl
noncomputable def clOfI (x : Int) : Cl := ((x.fmod 4).toNat, NL.getD ((x.fdiv 4).fmod 3).toNat "a", XL3.getD ((x.fdiv 12).fmod 3).toNat "")
theorem cl_at (fn : Tbl) (srt : PyData → Option PyData) (x : Int) : evG1 (Rs fn srt 39) clLC.2.2 (relabelS clLC.2.2 fLaw.scope) clLC.1 (gAt clLC.2.1) [("names", .val namesD)] (.int x) = some (some (clD (clOfI x))) ∧ clOfI x ∈ CL := by
  obtain ⟨k, hk, e⟩ := fmod_k x (m := 4) (by omega)
  obtain ⟨i, hi, ei⟩ := fmod_k (x.fdiv 4) (m := 3) (by omega)
  obtain ⟨j, hj, ej⟩ := fmod_k (x.fdiv 12) (m := 3) (by omega)
  replace e : x.fmod 4 = (k : Int) := e
  replace ei : (x.fdiv 4).fmod 3 = (i : Int) := ei
  replace ej : (x.fdiv 12).fmod 3 = (j : Int) := ej
  have c : clOfI x = (k, NL.getD i "a", XL3.getD j "") := by
    unfold clOfI
    rw [e, ei, ej]
    rfl
  rw [c]
  refine ⟨?_, List.mem_flatMap.mpr ⟨k, hk, List.mem_flatMap.mpr ⟨_, name_in i hi, List.mem_map.mpr ⟨_, val_in j hj, rfl⟩⟩⟩⟩
  rw [cl_item, e, ei, ej, of_map_eq name_at i hi, of_map_eq val_at j hj]
  rfl
theorem cut_two (a b : PyData) : (List.range 3).map (fun (k : Nat) => cutD (.list [a, b]) none (some (k : Int)) none) = (List.range 3).map fun (k : Nat) => some (.list (([a, b] : List PyData).take k)) := by kernel_rfl
theorem two_ok : NL.all (fun n => NL.all fun m => (List.range 3).all fun k => okPs ([pr n "0", pr m "1"].take k)) = true := by decide +kernel
theorem lw_numbers (fn : Tbl) (srt : PyData → Option PyData) (sc : PyData) (ns : List Int) (h : ns.length ≤ 5) : ∃ x1 x2 x3 x4 x5, S1At fn srt sc (ns.map .int) = some (.next, lw2 sc (ns.map .int) (N5 x1 x2 x3 x4 x5)) := by
  rcases ns with _ | ⟨a, _ | ⟨b, _ | ⟨c, _ | ⟨d, _ | ⟨e, _ | ⟨f, l⟩⟩⟩⟩⟩⟩
  · exact ⟨_, _, _, _, _, lw_s1_0 fn srt sc⟩
  · exact ⟨_, _, _, _, _, lw_s1_1 fn srt sc a⟩
  · exact ⟨_, _, _, _, _, lw_s1_2 fn srt sc a b⟩
  · exact ⟨_, _, _, _, _, lw_s1_3 fn srt sc a b c⟩
  · exact ⟨_, _, _, _, _, lw_s1_4 fn srt sc a b c d⟩
  · exact ⟨_, _, _, _, _, lw_s1_5 fn srt sc a b c d e⟩
  · exact absurd h (Nat.not_le.mpr (Nat.le_add_left 6 l.length))
theorem tabs_self {es : List (List PyData)} (h : AllPL es) : cmpD .Eq (.list (LF es)) (.list (LF es)) = some (.bool true) := by
  have s := tabs_small h
  rw [cmpEq s s, PySem.SeqAt.eqv_refl _ (by unfold smallD at s; exact (Bool.and_eq_true_iff.mp s).1)]
theorem cut_five (ns : List Int) (h : ns.length ≤ 63) : cutD (.list (ns.map PyData.int)) none (some 5) none = some (.list ((ns.take 5).map PyData.int)) := by
  show (if (ns.map PyData.int).length ≤ top then some (PyData.list (cutL (ns.map PyData.int) none (some 5))) else none) = _
  rw [if_pos (by rw [List.length_map]; unfold top; omega)]
  have e : cutL (ns.map PyData.int) none (some 5) = (ns.take 5).map PyData.int := by
    show ((ns.map PyData.int).drop 0).take (clipAt (ns.map PyData.int).length 5 - 0) = _
    rw [List.drop_zero, List.map_take]
    have hc : clipAt (ns.map PyData.int).length 5 = min 5 (ns.map PyData.int).length := clip_nat _ 5
    rw [hc, Nat.sub_zero]
    exact (List.take_eq_take_min).symm
  rw [e]
/-- both sides, sorted, are one list -/
theorem sides {cs : List Cl} (hc : ∀ c ∈ cs, c ∈ CL) (hl : cs.length = 4) {ps : List PyData} (hp : okPs ps = true) (hpl : ps.length ≤ 2) :
    (((FL "_law_played" [.list ps, .list (cs.map clD)]).bind srtL).bind fun x => ((FL "_law_told" [.list ps, .list (cs.map clD)]).bind srtL).bind fun y => cmpD .Eq x y) = some (.bool true) := by
  obtain ⟨R, r1, r2, r3, r4, r5⟩ := pl_run (fn := FP 5) (ps := ps) (fun _ => rfl) hp hpl hl hc
  obtain ⟨T, t1, t2, t3⟩ := told_run (fn := FT) (cs := cs) (ps := ps) ft_ro ft_sh hc (by omega) hp
  have same : T.Perm R := (List.perm_ext_iff_of_nodup t2 r2).mpr fun t => (t3 t).trans ((played_told hc hl (okPs_PL hp) t).symm.trans (r5 t).symm)
  obtain ⟨es, e1, e2, e3⟩ := srtL_perm same r4 r2 (by omega)
  rw [fl_pl, fl_to, r1, t1, Option.bind_some, Option.bind_some, e2, e3, Option.bind_some, Option.bind_some]
  exact tabs_self fun t ht => okPs_PL (r4 t (e1.mem_iff.mp ht))
theorem law_run (ns : List Int) (h : ns.length ≤ 63) : runF (Rs FL srtL 40) HS [] 10 ["script"] fLaw.body fLaw.scope [.list (ns.map .int)] = some (.bool true) := by
  have b0 := lw_s0 FL srtL (ns.map .int)
  rw [cut_five ns h, Option.bind_some] at b0
  have hl : listOf (.list ((ns.take 5).map PyData.int)) = some ((ns.take 5).map PyData.int) := rfl
  rw [hl, dr_lc] at b0
  have hg : evG (Rs FL srtL 39) drLC.2.2 (relabelS drLC.2.2 fLaw.scope) drLC.1 [gAt drLC.2.1] [] (some ((ns.take 5).map PyData.int)) = some ((((ns.take 5).map fun x => x.fmod 1000000)).map PyData.int) := by
    rw [evG_flat (φ := fun d => match d with | .int x => some (.int (x.fmod 1000000)) | _ => none) fun d hd => ?_]
    · rw [List.filterMap_map, List.map_map]
      congr 1
      induction ns.take 5 with
      | nil => rfl
      | cons x l ih => rw [List.filterMap_cons, List.map_cons, ih]; rfl
    · obtain ⟨x, _, rfl⟩ := List.mem_map.mp hd
      exact dr_item FL srtL x
  have hlen : ((ns.take 5).map fun x => x.fmod 1000000).length ≤ 5 := by rw [List.length_map, List.length_take]; omega
  rw [hg, Option.bind_some, mkList_ok (by rw [List.length_map]; omega), Option.bind_some] at b0
  obtain ⟨x1, x2, x3, x4, x5, b1⟩ := lw_numbers FL srtL (.list (ns.map .int)) ((ns.take 5).map fun x => x.fmod 1000000) hlen
  generalize ((ns.take 5).map fun x => x.fmod 1000000).map PyData.int = D at *
  have b2 := lw_s2 FL srtL (.list (ns.map .int)) D (N5 x1 x2 x3 x4 x5)
  have b3 := lw_s3 FL srtL (.list (ns.map .int)) D x1 x2 x3 x4 x5
  obtain ⟨n, hn, en⟩ := pair_at (x1.fdiv 3) "0"
  obtain ⟨m, hm, em⟩ := pair_at (x1.fdiv 9) "1"
  rw [en, em, Option.bind_some, Option.bind_some, Option.bind_some, Option.bind_some, mkList_ok (by show 2 ≤ 1000; omega), Option.bind_some] at b3
  obtain ⟨k, hk, ek⟩ := fmod_k x1 (m := 3) (by omega)
  replace ek : x1.fmod 3 = (k : Int) := ek
  have b4 := lw_s4 FL srtL (.list (ns.map .int)) D x1 x2 x3 x4 x5 [pr n "0", pr m "1"]
  rw [ek, of_map_eq (cut_two _ _) k hk, Option.bind_some] at b4
  have hp : okPs ([pr n "0", pr m "1"].take k) = true := List.all_eq_true.mp (List.all_eq_true.mp (List.all_eq_true.mp two_ok n hn) m hm) k hk
  have hpl : ([pr n "0", pr m "1"].take k).length ≤ 2 := by rw [List.length_take]; exact Nat.min_le_right _ _
  generalize ([pr n "0", pr m "1"].take k) = ps at *
  have b5 := lw_s5 FL srtL (.list (ns.map .int)) (.list [pr n "0", pr m "1"]) (.list ps) D x1 x2 x3 x4 x5
  have cs4 : ∀ c ∈ [clOfI x2, clOfI x3, clOfI x4, clOfI x5], c ∈ CL := fun c hc => by
    simp only [List.mem_cons, List.not_mem_nil, or_false] at hc
    rcases hc with rfl | rfl | rfl | rfl
    · exact (cl_at FL srtL x2).2
    · exact (cl_at FL srtL x3).2
    · exact (cl_at FL srtL x4).2
    · exact (cl_at FL srtL x5).2
  rw [cl_lc, evG_flat (φ := fun d => match d with | .int x => some (clD (clOfI x)) | _ => none) (fun d hd => by
    simp only [List.mem_cons, List.not_mem_nil, or_false] at hd
    rcases hd with rfl | rfl | rfl | rfl
    · exact (cl_at FL srtL x2).1
    · exact (cl_at FL srtL x3).1
    · exact (cl_at FL srtL x4).1
    · exact (cl_at FL srtL x5).1)] at b5
  replace b5 : _ = ((mkList ([clOfI x2, clOfI x3, clOfI x4, clOfI x5].map clD)).bind _) := b5
  rw [mkList_ok (by show 4 ≤ 1000; omega), Option.bind_some] at b5
  have b6 := lw_s6 FL srtL (.list (ns.map .int)) (.list [pr n "0", pr m "1"]) (.list ps) (.list ([clOfI x2, clOfI x3, clOfI x4, clOfI x5].map clD)) D (N5 x1 x2 x3 x4 x5)
  rw [sides cs4 rfl hp hpl, Option.bind_some] at b6
  refine (if_pos rfl).trans ?_
  show (match exL (Rs FL srtL 40) [] fLaw.scope HS (exs (Rs FL srtL 40) [] fLaw.scope HS 9) fLaw.body (rho0 ["script"] [.list (ns.map .int)]) with | some (.ret d, _) => some d | some (.next, _) => some .none | _ => none) = _
  have e0 : (rho0 ["script"] [.list (ns.map PyData.int)]).set "drawn" (.val (.list D)) = lw1 (.list (ns.map .int)) D := by rfl
  rw [lw_body, exL_next b0, e0, exL_next b1, exL_next b2, exL_next b3, exL_next b4, exL_next b5, exL_ret b6]
end Mine

namespace Mine
open PySem PySem.Calls PySem.Spec PyProof.Rows PySem.W PySem.SeqAt

/-! the text's shapes that the contracts ask for -/
noncomputable abbrev fConv := methFn pw "_convert_string_type"
theorem conv_bodyF : ConvBody fConv.body := ⟨_, _, _, _, _, _, _, _, _, _, _, _, _, _, _, _, _, _, _, _, _, by rfl, rfl⟩
theorem init_bodyF0 : ∃ lp, InitBody lp fInit.body := ⟨_, _, _, _, _, _, _, _, _, _, _, _, _, _, _, _, _, _, _, _, _, _, _, _, rfl⟩
theorem init_bodyF : InitBody initLoop fInit.body := by
  obtain ⟨lp, h⟩ := init_bodyF0
  have e : initLoop = lp := by
    obtain ⟨_, _, _, _, _, _, _, _, _, _, _, _, _, _, _, _, _, _, _, _, _, _, _, hb⟩ := h
    show stAt (thenOf (stAt fInit.body 3)) 0 = lp
    rw [hb]; rfl
  rw [e]
  exact h

section
variable {prog : Program} {w : World} {mg mb : Str → Option Value} {K : Frag} {H0 : Heap} {Ca : Addr}
theorem vals1 {vals : List Value} {a : Str} (h : vals.length = [a].length) : ∃ v, vals = [v] := by
  exact List.length_eq_one_iff.mp h
theorem vals2 {vals : List Value} {a b : Str} (h : vals.length = [a, b].length) : ∃ u v, vals = [u, v] := len2 h
theorem heOkK (t : TopH mg mb K H0 Ca) {fn : Str → List PyData → Option PyData} {k : Nat} (hk : 3 ≤ k) : HookOk prog w H0 (C1 Ca) ⟨fn, HE⟩ k := hkE_ok ((cl2 t).mono hk)
theorem hsOkK (t : TopH mg mb K H0 Ca) {k : Nat} (hk : 3 ≤ k) : StmtOk prog w (C1 Ca) H0 k HS := StmtOk.or (hkS_ok ((cl2 t).mono hk)) (hkNew_ok t.g1.toGround0 t.cls t.keep t.head ((new2 t).mono hk))
/-- the law's functions, as the heap has them -/
structure Defs (mg : Str → Option Value) (H0 : Heap) : Prop where
  ca : DefAt mg H0 "_law_call" fCa.params fCa.body fCa.scope
  pi : DefAt mg H0 "_law_picks" fPi.params fPi.body fPi.scope
  sh : DefAt mg H0 "_law_shuffles" fSh.params fSh.body fSh.scope
  ro : DefAt mg H0 "_law_rows" fRo.params fRo.body fRo.scope
  pl : DefAt mg H0 "_law_played" fPl.params fPl.body fPl.scope
  to : DefAt mg H0 "_law_told" fTo.params fTo.body fTo.scope
  law : DefAt mg H0 "law" fLaw.params fLaw.body fLaw.scope
theorem call_obj (D : Defs mg H0) : ∃ a o fd, mg ("_law_call" : Str) = some (.ref a) ∧ H0.get? a = some o ∧ o.data = .func fd ∧ ObjFn H0 a "table" ["call"] [] [] fCa.body fCa.scope := by
  obtain ⟨a, o, pm, code, doc, hm, ho, hd, hc⟩ := D.ca
  refine ⟨a, o, _, hm, ho, hd, ⟨⟨_, ⟨⟨o, ho, hd⟩, hc⟩, ⟨rfl, rfl, rfl, show plainSc fCa.scope = true by decide +kernel⟩, rfl, rfl, fun s0 _ self vals h => ?_⟩, by decide +kernel, by decide +kernel⟩⟩
  obtain ⟨v, rfl⟩ := List.length_eq_one_iff.mp h
  exact ⟨s0.heap, [], [], Stays.refl _, .nil, rfl, (fun _ m => nomatch m), BindsTo.of_eq (by kernel_rfl)⟩
theorem fwOk (t : TopH mg mb K H0 Ca) (D : Defs mg H0) : FwOk prog w mg H0 Ca 4 wfC := by
  intro f ps args ps' d q
  cases args with
  | nil => exact noSome q
  | cons a as =>
    replace q := iteS (show (if f == ("_law_call" : Str) && as.isEmpty && okPs ps && decide (ps.length < 12) then (clOf a).map fun c => (doP c ps, PyData.none) else none) = _ from q)
    obtain ⟨h, q⟩ := q
    simp only [Bool.and_eq_true, beq_iff_eq, decide_eq_true_eq, List.isEmpty_iff] at h
    obtain ⟨⟨⟨rfl, rfl⟩, hok⟩, hlen⟩ := h
    obtain ⟨c, hc, e⟩ := Option.map_eq_some_iff.mp q
    cases e
    obtain ⟨rfl, hC⟩ := clOf_eq hc
    obtain ⟨hk, hn, hv⟩ := CL_in hC
    obtain ⟨fa, o, fd, e1, e2, e3, MF⟩ := call_obj D
    have PS : ∀ ok, SpecOk prog w mg H0 ⟨Ca, ok⟩ ⟨noFnT, HE⟩ 3 := fun ok => ⟨(fun _ _ _ e => nomatch e), hkE_ok (cl2 t)⟩
    have run : runO (XC 10 fCa.body) "table" ["call"] fCa.scope ps [clD c] [] [] = some (.none, some (doP c ps)) := ca_run hk hn hv hok hlen
    refine ⟨fa, o, fd, e1, e2, e3, fun A s P y l vs vargs n rm hst Hy hl0 hl rr hP fr ra => ?_⟩
    exact obj_wr (k := 3) t.g1.toGround0 MF (fun ok A P env es rm => exs_blk (PS ok) noSrt_ok t.g1.toGround0 (hkS_ok (cl2 t)) A P env es rm) run rm hst Hy hl0 hl rr hP fr ra
theorem FwOk.mono {k k' : Nat} {wf : Str → List PyData → List PyData → Option (List PyData × PyData)} (x : FwOk prog w mg H0 Ca k wf) (h : k ≤ k') : FwOk prog w mg H0 Ca k' wf := fun f ps args ps' d q => by
  obtain ⟨a, o, fd, e1, e2, e3, g⟩ := x f ps args ps' d q
  exact ⟨a, o, fd, e1, e2, e3, fun A s P y l vs vargs n rm => g A s P y l vs vargs n (rm.mono h)⟩
theorem fpOk (t : TopH mg mb K H0 Ca) (D : Defs mg H0) : ∀ m, FnsOk prog w mg H0 ⟨FP m, HE⟩ (3 + m)
  | 0 => fun _ _ _ e => noSome e
  | m + 1 => by
    have PS : SpecOk prog w mg H0 (C1 Ca) ⟨FP m, HE⟩ (3 + m) := ⟨fpOk t D m, heOkK t (by omega)⟩
    intro f args d e
    replace e := iteS (show (if f == ("_law_picks" : Str) then runF (Rf (FP m) 40) HS ["rows"] 10 ["pairs"] fPi.body fPi.scope args else none) = some d from e)
    rw [beq_iff_eq.mp e.1]
    exact fun_ok (k := 3 + m) PS noSrt_ok t.g1.toGround0 (hsOkK t (by omega)) D.pi (by decide +kernel) (by decide +kernel) (by decide +kernel) (fun pm code doc vals h => by obtain ⟨v, rfl⟩ := vals1 h; kernel_rfl) e.2
theorem fsOk (t : TopH mg mb K H0 Ca) (D : Defs mg H0) : ∀ m, FnsOk prog w mg H0 ⟨FS m, HE⟩ (3 + m)
  | 0 => fun _ _ _ e => noSome e
  | m + 1 => by
    have PS : SpecOk prog w mg H0 (C1 Ca) ⟨FS m, HE⟩ (3 + m) := ⟨fsOk t D m, heOkK t (by omega)⟩
    intro f args d e
    replace e := iteS (show (if f == ("_law_shuffles" : Str) then runF (Rf (FS m) 40) HS [] 10 ["left", "right"] fSh.body fSh.scope args else none) = some d from e)
    rw [beq_iff_eq.mp e.1]
    exact fun_ok (k := 3 + m) PS noSrt_ok t.g1.toGround0 (hsOkK t (by omega)) D.sh (by decide +kernel) (by decide +kernel) (by decide +kernel) (fun pm code doc vals h => by obtain ⟨u, v, rfl⟩ := vals2 h; kernel_rfl) e.2
theorem ftOk (t : TopH mg mb K H0 Ca) (D : Defs mg H0) : FnsOk prog w mg H0 ⟨FT, HE⟩ 9 := by
  have PS : SpecOk prog w mg H0 (C1 Ca) ⟨FP 5, HE⟩ 8 := ⟨fpOk t D 5, heOkK t (by omega)⟩
  intro f args d e
  replace e : (if f == ("_law_rows" : Str) then runF (Rf (FP 5) 40) HS ["rows"] 10 ["stood", "calls"] fRo.body fRo.scope args else FS 6 f args) = some d := e
  by_cases c : (f == ("_law_rows" : Str)) = true
  · rw [if_pos c] at e
    rw [beq_iff_eq.mp c]
    exact fun_ok (k := 8) PS noSrt_ok t.g1.toGround0 (hsOkK t (by omega)) D.ro (by decide +kernel) (by decide +kernel) (by decide +kernel) (fun pm code doc vals h => by obtain ⟨u, v, rfl⟩ := vals2 h; kernel_rfl) e
  · rw [if_neg c] at e
    exact fsOk t D 6 f args d e
theorem flOk (t : TopH mg mb K H0 Ca) (D : Defs mg H0) : FnsOk prog w mg H0 ⟨FL, HE⟩ 10 := by
  have P8 : SpecOk prog w mg H0 (C1 Ca) ⟨FP 5, HE⟩ 8 := ⟨fpOk t D 5, heOkK t (by omega)⟩
  have P9 : SpecOk prog w mg H0 (C1 Ca) ⟨FT, HE⟩ 9 := ⟨ftOk t D, heOkK t (by omega)⟩
  have S8 : StmtOk prog w (C1 Ca) H0 8 HSp := StmtOk.or (hsOkK t (by omega)) (hkFw_ok t.g1.toGround0 ((fwOk t D).mono (by omega)))
  intro f args d e
  replace e : (if f == ("_law_played" : Str) then runB (XPl (FP 5) 10 fPl.body) ["pairs", "calls"] args else if f == ("_law_told" : Str) then runB (XT FT 10 fTo.body) ["pairs", "calls"] args else none) = some d := e
  by_cases c : (f == ("_law_played" : Str)) = true
  · rw [if_pos c] at e
    rw [beq_iff_eq.mp c]
    exact FnOk.mono (fun_okB (k := 8) t.g1.toGround0 D.pl (fun A P env es rm => exsS_blk P8 noSrt_ok t.g1.toGround0 S8 (nzS_drops _) A P env es rm) (by decide +kernel) (by decide +kernel) (by decide +kernel) (fun pm code doc vals h => by obtain ⟨u, v, rfl⟩ := vals2 h; kernel_rfl) e) (by omega)
  · rw [if_neg c] at e
    obtain ⟨c2, e⟩ := iteS e
    rw [beq_iff_eq.mp c2]
    exact fun_okB (k := 9) t.g1.toGround0 D.to (fun A P env es rm => exsS_blk P9 noSrt_ok t.g1.toGround0 (hsOkK t (by omega)) (nzS_drops _) A P env es rm) (by decide +kernel) (by decide +kernel) (by decide +kernel) (fun pm code doc vals h => by obtain ⟨u, v, rfl⟩ := vals2 h; kernel_rfl) e
theorem law_fn (t : TopH mg mb K H0 Ca) (D : Defs mg H0) (ns : List Int) (h : ns.length ≤ 63) :
    ∃ a o fd, mg "law" = some (.ref a) ∧ H0.get? a = some o ∧ o.data = .func fd ∧ ∀ (A : Around) (s : Shared) (vs : List Value) (as : List Addr) (R : Result → Shared → Prop), Room A 11 → Stays H0 s.heap → ReadsAll s.heap vs [.list (ns.map .int)] as →
      (∀ r h' tk bs, Stays s.heap h' → Reads h' r (.bool true) bs → (∀ b ∈ bs, b ∈ as ∨ s.heap.get? b = none) → R (.ok (.ret r)) { s with heap := h', toks := tk }) → codeAny (model prog w) A (.call (.ref a) ⟨vs, []⟩) R s :=
  fun_code (C := C1 Ca) (Φ := ⟨FL, HE⟩) (srt := srtL) (k := 10) ⟨flOk t D, heOkK t (by omega)⟩ srtL_ok t.g1.toGround0 (hsOkK t (by omega)) D.law (by decide +kernel) (by decide +kernel) (by decide +kernel) (fun pm code doc vals h => by
    obtain ⟨v, rfl⟩ := vals1 h
    kernel_rfl) (law_run ns h)
end
end Mine

namespace Mine
open PySem PySem.Calls PySem.Spec PyProof.Rows PySem.W PySem.SeqAt

/-! what the written heap must say -/
structure FunK (K : Frag) (f : Addr) (F : Fn) : Prop where
  isf : (fdIn K f).isSome = true
  code : codeIn K (fdOf K f).code (fdOf K f).qualname = true
  gl : (fdOf K f).globals = mainGlobals
  bl : (fdOf K f).builtins = builtinsNs
  cl : (fdOf K f).closure = []
  sc : (fdOf K f).scope = F.scope
  body : (fdOf K f).body = .stmts F.body
structure MethK (K : Frag) (Ca : Addr) (m : Str) (f : Addr) (F : Fn) : Prop where
  find : findIn K (.ref Ca) m = some (some (.ref f))
  ty : typeIn K (.ref f) = some (.type "function")
  fn : FunK K f F
theorem FunK.plain {K : Frag} {f : Addr} {F : Fn} (x : FunK K f F) (h : plainSc F.scope = true) : PlainIn K f F := ⟨x.isf, x.code, x.gl, x.bl, x.cl, x.sc, x.body, h⟩
theorem MethK.at_ {K : Frag} {Ca f : Addr} {m : Str} {F : Fn} {H0 : Heap} (x : MethK K Ca m f F) (X : K.In H0) (h : (m == ("_headers" : Str)) = false) : MethAt K H0 Ca m f := methAt_K X x.find x.ty h x.fn.isf x.fn.code
structure DefK (K : Frag) (n : Str) (a : Addr) (F : Fn) : Prop where
  at_ : nsIn K mainGlobals n = some (some (.ref a))
  isf : (fdIn K a).isSome = true
  eq : fdOf K a = docDef n F.params F.body F.scope (fdOf K a).pyModule (fdOf K a).code (fdOf K a).doc
  code : codeIn K (fdOf K a).code n = true
theorem DefK.def_ {K : Frag} {n : Str} {a : Addr} {F : Fn} {H0 : Heap} {mg : Str → Option Value} (x : DefK K n a F) (X : K.In H0) (g : H0.Ns mainGlobals mg) : DefAt mg H0 n F.params F.body F.scope := defAt_K X g x.at_ x.isf x.eq x.code

structure NamesK (K : Frag) (pn pv : Addr) : Prop where
  len : nsIn K mainGlobals "len" = some none
  list : nsIn K mainGlobals "list" = some none
  sorted : nsIn K mainGlobals "sorted" = some none
  range : nsIn K mainGlobals "range" = some none
  type_ : nsIn K mainGlobals "type" = some none
  str_ : nsIn K mainGlobals "str" = some none
  n1 : nsIn K mainGlobals "_name_disallowed_re" = some (some (.ref pn))
  n2 : nsIn K mainGlobals "_value_disallowed_re" = some (some (.ref pv))
  p1 : patIn K pn = some nameCode
  p2 : patIn K pv = some valCode
theorem g1_of {K : Frag} {H0 : Heap} {mg mb : Str → Option Value} {pn pv : Addr} (k : NamesK K pn pv) (X : K.In H0) (gns : H0.Ns mainGlobals mg) (bns : H0.Ns builtinsNs mb) (nl : H0.NoLimit) (hb : ∀ x : Str, x ≠ "__name__" → mb x = bootBuiltins x) : Ground1 mg mb H0 where
  g := gns
  b := bns
  nolimit := nl
  len := ⟨ns_none_of X gns k.len, (hb _ (by decide +kernel)).trans (by kernel_rfl)⟩
  list := ⟨ns_none_of X gns k.list, (hb _ (by decide +kernel)).trans (by kernel_rfl)⟩
  sorted := ⟨ns_none_of X gns k.sorted, (hb _ (by decide +kernel)).trans (by kernel_rfl)⟩
  range := ⟨ns_none_of X gns k.range, (hb _ (by decide +kernel)).trans (by kernel_rfl)⟩
  type_ := ⟨ns_none_of X gns k.type_, (hb _ (by decide +kernel)).trans (by kernel_rfl)⟩
  str_ := ⟨ns_none_of X gns k.str_, (hb _ (by decide +kernel)).trans (by kernel_rfl)⟩
  pats := ⟨pn, pv, mg_of X gns k.n1, mg_of X gns k.n2, patAt_K X k.p1, patAt_K X k.p2⟩

structure ClassK (K : Frag) (Ca fc fi T : Addr) : Prop where
  ga : findIn K (.ref Ca) "__getattribute__" = some (some (.builtin "object.__getattribute__"))
  gattr : findIn K (.ref Ca) "__getattr__" = some none
  noseq : noSeq K Ca = true
  has1 : clsIn K Ca = some ((clsIn K Ca).getD default)
  has2 : ((clsIn K Ca).getD default).hasDict = true
  nofield : findIn K (.ref Ca) "_headers" = some none
  conv : MethK K Ca "_convert_string_type" fc fConv
  convB : ∀ self v b, bindArgs (fdOf K fc) ⟨[self, v], [("name", .bool b)]⟩ = pure [(("self" : Str), self), (("value" : Str), v), (("name" : Str), .bool b)]
  makes : makesIn K Ca = true
  init : findIn K (.ref Ca) "__init__" = some (some (.ref fi))
  ity : typeIn K (.ref fi) = some (.type "function")
  plain : plainOver K Ca = true
  taker : takerIn K Ca "_headers" = some none
  has : (clsIn K Ca).any (·.hasDict) = true
  setattr : findIn K (.ref Ca) "__setattr__" = some (some (.builtin "object.__setattr__"))
  initF : FunK K fi fInit
  dflt : (fdOf K fi).defaults = .ref T
  dat : K.lookup T = some { cls := .type "tuple", data := .seq #[.none] }
  initB1 : ∀ self v, ∃ k : Option (Array Value) → Sem (List (Str × Value)), bindArgs (fdOf K fi) ⟨[self, v], []⟩ = seqItems? (fdOf K fi).defaults >>= k ∧ k (some #[.none]) = pure [(("self" : Str), self), (("headers" : Str), v)]
  keep : keepIn K (.ref Ca) = true
  head : nsIn K mainGlobals "Headers" = some (some (.ref Ca))
structure MethsK (K : Frag) (Ca fd fg ft fs Tg fw fa : Addr) : Prop where
  del : MethK K Ca "__delitem__" fd fDel
  delB : ∀ v u, bindArgs (fdOf K fd) ⟨[v, u], []⟩ = pure [(("self" : Str), v), (("name" : Str), u)]
  get : MethK K Ca "get" fg fGet
  getD : (fdOf K fg).defaults = .ref Tg
  getT : K.lookup Tg = some { cls := .type "tuple", data := .seq #[.none] }
  getB : ∀ self v, ∃ k : Option (Array Value) → Sem (List (Str × Value)), bindArgs (fdOf K fg) ⟨[self, v], []⟩ = seqItems? (fdOf K fg).defaults >>= k ∧ k (some #[.none]) = pure [(("self" : Str), self), (("name" : Str), v), (("default" : Str), .none)]
  items : MethK K Ca "items" ft fItems
  itemsB : ∀ v, bindArgs (fdOf K ft) ⟨[v], []⟩ = pure [(("self" : Str), v)]
  sd : MethK K Ca "setdefault" fs fDef
  sdB : ∀ v u t, bindArgs (fdOf K fs) ⟨[v, u, t], []⟩ = pure [(("self" : Str), v), (("name" : Str), u), (("value" : Str), t)]
  set : MethK K Ca "__setitem__" fw fSet
  setB : ∀ v u t, bindArgs (fdOf K fw) ⟨[v, u, t], []⟩ = pure [(("self" : Str), v), (("name" : Str), u), (("val" : Str), t)]
  add : MethK K Ca "add_header" fa fAdd
  addB : ∀ v u t, bindArgs (fdOf K fa) ⟨[v, u, t], []⟩ = alloc kwObj >>= fun d => pure [(("self" : Str), v), (("_name" : Str), u), (("_value" : Str), t), (("_params" : Str), .ref d)]
  far : sysModules < fa
theorem addFn {K : Frag} {H0 : Heap} {f : Addr} (X : K.In H0) (p : FunK K f fAdd) (hb : ∀ v u t, bindArgs (fdOf K f) ⟨[v, u, t], []⟩ = alloc kwObj >>= fun d => pure [(("self" : Str), v), (("_name" : Str), u), (("_value" : Str), t), (("_params" : Str), .ref d)]) (far : sysModules < f) :
    ObjFn H0 f "self" ["_name", "_value"] [] ["_params"] fAdd.body fAdd.scope := by
  refine ⟨⟨_, funAt_K X p.isf p.code, (p.plain (by decide +kernel)).fd, p.sc, p.body, fun s0 hst self vals h => ?_⟩, by decide +kernel, by decide +kernel⟩
  obtain ⟨u, t, rfl⟩ := len2 h
  obtain ⟨o, ho, _⟩ := fdOf_at X p.isf
  have lt := Heap.lt_size (hst _ _ ho)
  have none : s0.heap.get? s0.heap.objs.size = none := Option.eq_none_iff_forall_ne_some.mpr fun o e => absurd (Heap.lt_size e) (Nat.lt_irrefl _)
  refine ⟨s0.heap.push kwObj, [], [.ref s0.heap.objs.size], fun b o e => Heap.get?_push_of_some _ e, .nil, rfl, fun v m => ⟨_, List.mem_singleton.mp m, none, Heap.get?_push_size _ rfl, fun z => ?_⟩, fun M A E Q q => ?_⟩
  · exact absurd (z ▸ lt) (Nat.not_lt.mpr (Nat.le_of_lt far))
  · rw [hb]
    exact wpAny_bind (wpAny_alloc (wpAny_pure q))

theorem topH_of {K : Frag} {H0 : Heap} {mg mb : Str → Option Value} {pn pv Ca fc fi T fd fg ft fs Tg fw fa : Addr} (kn : NamesK K pn pv) (kc : ClassK K Ca fc fi T) (km : MethsK K Ca fd fg ft fs Tg fw fa)
    (X : K.In H0) (gns : H0.Ns mainGlobals mg) (bns : H0.Ns builtinsNs mb) (nl : H0.NoLimit) (hb : ∀ x : Str, x ≠ "__name__" → mb x = bootBuiltins x) : TopH mg mb K H0 Ca where
  g1 := g1_of kn X gns bns nl hb
  cls := ⟨X, kc.ga, kc.gattr, kc.noseq⟩
  field := ⟨_, kc.has1, kc.has2⟩
  nofield := kc.nofield
  conv := by
    exact ⟨fc, kc.conv.at_ X (by decide +kernel), ⟨⟨fdOf K fc, funAt_K X kc.conv.fn.isf kc.conv.fn.code, (kc.conv.fn.plain (by decide +kernel)).fd, kc.conv.fn.sc.trans (by kernel_rfl), ⟨_, kc.conv.fn.body, conv_bodyF⟩, kc.convB⟩⟩⟩
  del := ⟨fd, km.del.at_ X (by decide +kernel), methFn1 X (km.del.fn.plain (by decide +kernel)) km.delB (by decide +kernel) (by decide +kernel) (by decide +kernel)⟩
  get := ⟨fg, km.get.at_ X (by decide +kernel), ⟨⟨fdOf K fg, funAt_K X km.get.fn.isf km.get.fn.code, (km.get.fn.plain (by decide +kernel)).fd, km.get.fn.sc, km.get.fn.body, fun s hst self vals h => by
    obtain ⟨v, rfl⟩ := List.length_eq_one_iff.mp h
    obtain ⟨k, h1, h2⟩ := km.getB self v
    exact binds_K (T := Tg) (o := { cls := .type "tuple", data := .seq #[.none] }) (items := #[.none]) (n := 0) (X.keeps hst) km.getD km.getT rfl h1 h2⟩, by decide +kernel, by decide +kernel, by decide +kernel⟩⟩
  items := ⟨ft, km.items.at_ X (by decide +kernel), methFn0 X (km.items.fn.plain (by decide +kernel)) km.itemsB (by decide +kernel) (by decide +kernel) (by decide +kernel)⟩
  sd := ⟨fs, km.sd.at_ X (by decide +kernel), methFn2 X (km.sd.fn.plain (by decide +kernel)) km.sdB (by decide +kernel) (by decide +kernel) (by decide +kernel)⟩
  set := ⟨fw, km.set.at_ X (by decide +kernel), methFn2 X (km.set.fn.plain (by decide +kernel)) km.setB (by decide +kernel) (by decide +kernel) (by decide +kernel)⟩
  add := ⟨fa, km.add.at_ X (by decide +kernel), addFn X km.add.fn km.addB km.far⟩
  init := by
    refine ⟨fi, ⟨kc.makes, kc.init, kc.ity, kc.plain, kc.taker, kc.has, kc.setattr⟩, ⟨⟨fdOf K fi, funAt_K X kc.initF.isf kc.initF.code, (kc.initF.plain (by decide +kernel)).fd, kc.initF.sc, ⟨_, kc.initF.body, init_bodyF⟩, fun s hst self v => ?_⟩, by decide +kernel, by decide +kernel, by decide +kernel, by kernel_rfl, by kernel_rfl⟩⟩
    obtain ⟨k, h1, h2⟩ := kc.initB1 self v
    exact binds_K (T := T) (o := { cls := .type "tuple", data := .seq #[.none] }) (items := #[.none]) (n := 0) (X.keeps hst) kc.dflt kc.dat rfl h1 h2
  keep := kc.keep
  head := mg_of X gns kc.head
end Mine

namespace Mine
open PySem PySem.Calls PySem.Spec PyProof.Rows PySem.W PySem.SeqAt

structure DefsK (K : Frag) (a1 a2 a3 a4 a5 a6 a7 : Addr) : Prop where
  ca : DefK K "_law_call" a1 fCa
  pi : DefK K "_law_picks" a2 fPi
  sh : DefK K "_law_shuffles" a3 fSh
  ro : DefK K "_law_rows" a4 fRo
  pl : DefK K "_law_played" a5 fPl
  to : DefK K "_law_told" a6 fTo
  law : DefK K "law" a7 fLaw
theorem law1_call {prog : Program} {w : World} {mg mb : Str → Option Value} {H0 : Heap} {K : Frag} {pn pv Ca fc fi T fd fg ft fs Tg fw fq a1 a2 a3 a4 a5 a6 a7 : Addr} (X : K.In H0) (kn : NamesK K pn pv) (kc : ClassK K Ca fc fi T) (km : MethsK K Ca fd fg ft fs Tg fw fq) (kd : DefsK K a1 a2 a3 a4 a5 a6 a7)
    (gns : H0.Ns mainGlobals mg) (bns : H0.Ns builtinsNs mb) (nl : H0.NoLimit) (hb : ∀ x : Str, x ≠ "__name__" → mb x = bootBuiltins x)
    {fa a : Addr} {ns : List Int} {as : List Addr} {s : Shared} {R : Result → Shared → Prop} (hmg : mg ("law" : Str) = some (.ref fa)) (hs : s.heap = H0) (hr : Reads s.heap (.ref a) (.list (ns.map .int)) as) (hn : ns.length ≤ 63) (q : ∀ h' tk, Stays s.heap h' → R (.ok (.ret (.bool true))) { s with heap := h', toks := tk }) :
    codeAny (model prog w) callerA (.call (.ref fa) ⟨[.ref a], []⟩) R s := by
  have t := topH_of kn kc km X gns bns nl hb
  obtain ⟨a', o, fd, e1, e2, e3, g⟩ := law_fn (prog := prog) (w := w) t ⟨kd.ca.def_ X gns, kd.pi.def_ X gns, kd.sh.def_ X gns, kd.ro.def_ X gns, kd.pl.def_ X gns, kd.to.def_ X gns, kd.law.def_ X gns⟩ ns hn
  rw [hmg] at e1
  cases e1
  refine g callerA s [.ref a] (as ++ []) R ⟨rfl, by decide +kernel, by decide +kernel⟩ (hs ▸ Stays.refl _) (.cons hr .nil) fun r h' tk bs st rd _ => ?_
  cases rd
  exact q h' tk st
end Mine

open PySem PySem.W PyProof.Rows
set_option maxRecDepth 100000 in
set_option maxHeartbeats 8000000 in
theorem PySem.Challenge.cw_pe0170_01_holds : PySem.Challenge.rw_pe0170_01.Holds := by
  w_on
  refine holds_law (by kernel_rfl) fun said => ?_
  k_head
  (case hw => w_witness2)
  w_strict (
    k_fill
    intro w s₀ s₁ mg mb G Y fa o pm cd doc dV kV ho hd hcd hD hmg hg args vals as hpre hlay hrd hwl hlo
    have KX := kIn_of Y
    refine Ground.open G ?_
    intro T B D TE TW
    wrow_args hpre hlay hrd hwl hlo
    all_goals (first | refine callC_kw (enter_call ?_) | refine enter_call ?_ | refine callC_kw (enter_callW ?_) | refine enter_callW ?_ )
    w_top on
    rename_i hlen _
    refine Mine.law1_call (pn := 48) (pv := 53) (Ca := 184) (fc := 83) (fi := 76) (T := 69) (fd := 102) (fg := 131) (ft := 148) (fs := 174) (Tg := 124) (fw := 97) (fq := 181) (a1 := 195) (a2 := 200) (a3 := 217) (a4 := 212) (a5 := 207) (a6 := 222) (a7 := 227) KX ?k1 ?k2 ?k3 ?k4 (Top.g T) (Top.b T) (Top.nolimit T) (Top.builtins T) hmg rfl (by assumption) (by omega) ?kq
    case k1 => exact ⟨by kernel_rfl, by kernel_rfl, by kernel_rfl, by kernel_rfl, by kernel_rfl, by kernel_rfl, by kernel_rfl, by kernel_rfl, by kernel_rfl, by kernel_rfl⟩
    case k2 =>
      exact ⟨by kernel_rfl, by kernel_rfl, by kernel_rfl, by kernel_rfl, by kernel_rfl, by kernel_rfl, ⟨by kernel_rfl, by kernel_rfl, ⟨by kernel_rfl, by kernel_rfl, by kernel_rfl, by kernel_rfl, by kernel_rfl, by kernel_rfl, by kernel_rfl⟩⟩, fun _ _ _ => by kernel_rfl,
        by kernel_rfl, by kernel_rfl, by kernel_rfl, by kernel_rfl, by kernel_rfl, by kernel_rfl, by kernel_rfl, ⟨by kernel_rfl, by kernel_rfl, by kernel_rfl, by kernel_rfl, by kernel_rfl, by kernel_rfl, by kernel_rfl⟩, by kernel_rfl, by kernel_rfl, fun _ _ => ⟨_, rfl, rfl⟩, by kernel_rfl, by kernel_rfl⟩
    case k3 =>
      exact ⟨⟨by kernel_rfl, by kernel_rfl, ⟨by kernel_rfl, by kernel_rfl, by kernel_rfl, by kernel_rfl, by kernel_rfl, by kernel_rfl, by kernel_rfl⟩⟩, fun _ _ => by kernel_rfl,
        ⟨by kernel_rfl, by kernel_rfl, ⟨by kernel_rfl, by kernel_rfl, by kernel_rfl, by kernel_rfl, by kernel_rfl, by kernel_rfl, by kernel_rfl⟩⟩, by kernel_rfl, by kernel_rfl, fun _ _ => ⟨_, rfl, rfl⟩,
        ⟨by kernel_rfl, by kernel_rfl, ⟨by kernel_rfl, by kernel_rfl, by kernel_rfl, by kernel_rfl, by kernel_rfl, by kernel_rfl, by kernel_rfl⟩⟩, fun _ => by kernel_rfl,
        ⟨by kernel_rfl, by kernel_rfl, ⟨by kernel_rfl, by kernel_rfl, by kernel_rfl, by kernel_rfl, by kernel_rfl, by kernel_rfl, by kernel_rfl⟩⟩, fun _ _ _ => by kernel_rfl,
        ⟨by kernel_rfl, by kernel_rfl, ⟨by kernel_rfl, by kernel_rfl, by kernel_rfl, by kernel_rfl, by kernel_rfl, by kernel_rfl, by kernel_rfl⟩⟩, fun _ _ _ => by kernel_rfl,
        ⟨by kernel_rfl, by kernel_rfl, ⟨by kernel_rfl, by kernel_rfl, by kernel_rfl, by kernel_rfl, by kernel_rfl, by kernel_rfl, by kernel_rfl⟩⟩, fun _ _ _ => by kernel_rfl, by decide +kernel⟩
    case k4 => exact ⟨⟨by kernel_rfl, by kernel_rfl, by kernel_rfl, by kernel_rfl⟩, ⟨by kernel_rfl, by kernel_rfl, by kernel_rfl, by kernel_rfl⟩, ⟨by kernel_rfl, by kernel_rfl, by kernel_rfl, by kernel_rfl⟩, ⟨by kernel_rfl, by kernel_rfl, by kernel_rfl, by kernel_rfl⟩, ⟨by kernel_rfl, by kernel_rfl, by kernel_rfl, by kernel_rfl⟩, ⟨by kernel_rfl, by kernel_rfl, by kernel_rfl, by kernel_rfl⟩, ⟨by kernel_rfl, by kernel_rfl, by kernel_rfl, by kernel_rfl⟩⟩
    case kq =>
      intro h' tk st
      refine ⟨.inl ⟨.bool true, .bool true, [], rfl, ?_, .bool true, ?_, fun _ => ⟨.nil, fun _ m => nomatch m⟩⟩, .of_keep st, rfl, .of_eq hg⟩
      · exact fun _ => rfl
      · first | rfl | kernel_rfl)
