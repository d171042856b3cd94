import PyProof.Rows.All
import Wide.All
import OpenK.AllK
import Wide.FinOn
import PySem.Challenge.RW_mj0188_01
set_option Elab.async false
set_option maxRecDepth 100000

section
namespace Mine
open PySem PySem.W PyProof.Rows

def nthL : List Stmt → Nat → Stmt
  | [], _ => default
  | x :: _, 0 => x
  | _ :: l, i + 1 => nthL l i
def nthT (i : Nat) : Stmt := nthL PySem.Challenge.pw_mj0188_01.main.body i
def st0 : Stmt := nthT 0
def st1 : Stmt := nthT 1
def st2 : Stmt := nthT 2
def st3 : Stmt := nthT 3
def st4 : Stmt := nthT 4
def st5 : Stmt := nthT 5
def st6 : Stmt := nthT 6
def st7 : Stmt := nthT 7
def st8 : Stmt := nthT 8
def st9 : Stmt := nthT 9
def st10 : Stmt := nthT 10
def st11 : Stmt := nthT 11
def st12 : Stmt := nthT 12
def st13 : Stmt := nthT 13
def st14 : Stmt := nthT 14
def st15 : Stmt := nthT 15
def st16 : Stmt := nthT 16
def st17 : Stmt := nthT 17
def st18 : Stmt := nthT 18
def st19 : Stmt := nthT 19
def st20 : Stmt := nthT 20
def st21 : Stmt := nthT 21
def st22 : Stmt := nthT 22
def st23 : Stmt := nthT 23
def st24 : Stmt := nthT 24
def st25 : Stmt := nthT 25
def st26 : Stmt := nthT 26
def st27 : Stmt := nthT 27
def st28 : Stmt := nthT 28
def st29 : Stmt := nthT 29
def st30 : Stmt := nthT 30
def st31 : Stmt := nthT 31
def st32 : Stmt := nthT 32
def st33 : Stmt := nthT 33
def st34 : Stmt := nthT 34
def st35 : Stmt := nthT 35
def st36 : Stmt := nthT 36
def st37 : Stmt := nthT 37
def st38 : Stmt := nthT 38
def st39 : Stmt := nthT 39
def st40 : Stmt := nthT 40
def st41 : Stmt := nthT 41
def st42 : Stmt := nthT 42
def st43 : Stmt := nthT 43
def st44 : Stmt := nthT 44
def st45 : Stmt := nthT 45
def st46 : Stmt := nthT 46
def st47 : Stmt := nthT 47
def st48 : Stmt := nthT 48
def st49 : Stmt := nthT 49
def st50 : Stmt := nthT 50
def st51 : Stmt := nthT 51
def st52 : Stmt := nthT 52
def st53 : Stmt := nthT 53
def st54 : Stmt := nthT 54
def st55 : Stmt := nthT 55
def st56 : Stmt := nthT 56
def st57 : Stmt := nthT 57
def st58 : Stmt := nthT 58
def st59 : Stmt := nthT 59
def st60 : Stmt := nthT 60
def st61 : Stmt := nthT 61
def st62 : Stmt := nthT 62
def st63 : Stmt := nthT 63
def st64 : Stmt := nthT 64
def st65 : Stmt := nthT 65
def st66 : Stmt := nthT 66
def st67 : Stmt := nthT 67
def st68 : Stmt := nthT 68
def st69 : Stmt := nthT 69
def st70 : Stmt := nthT 70
def st71 : Stmt := nthT 71
def st72 : Stmt := nthT 72
def st73 : Stmt := nthT 73
def st74 : Stmt := nthT 74
def st75 : Stmt := nthT 75
def st76 : Stmt := nthT 76
def st77 : Stmt := nthT 77
def st78 : Stmt := nthT 78
def st79 : Stmt := nthT 79
def pgT : Program := { PySem.Challenge.pw_mj0188_01 with main := { PySem.Challenge.pw_mj0188_01.main with body := [st0, st1, st2, st3, st4, st5, st6, st7, st8, st9, st10, st11, st12, st13, st14, st15, st16, st17, st18, st19, st20, st21, st22, st23, st24, st25, st26, st27, st28, st29, st30, st31, st32, st33, st34, st35, st36, st37, st38, st39, st40, st41, st42, st43, st44, st45, st46, st47, st48, st49, st50, st51, st52, st53, st54, st55, st56, st57, st58, st59, st60, st61, st62, st63, st64, st65, st66, st67, st68, st69, st70, st71, st72, st73, st74, st75, st76, st77, st78, st79] } }
theorem pgT_eq : PySem.Challenge.pw_mj0188_01 = pgT := rfl
def rwT : OpenLaw := { prog := pgT, name := Str.ofString "law", about := [Str.ofString "normpath"], foot := 8, most := some 63, bound := none, writes := false }
theorem rwT_eq : PySem.Challenge.rw_mj0188_01 = rwT := by
  show ({ prog := PySem.Challenge.pw_mj0188_01, name := _, about := _, foot := _, most := _, bound := _, writes := _ } : OpenLaw) = _
  rw [pgT_eq]; rfl
end Mine
end

section
namespace Mine
open PySem PySem.W PySem.Calls PyProof.Rows
noncomputable def tabRows : List (Str × Tok × Int × Tok) := [(Str.ofString "!", 466, 54, 464), (Str.ofString "!=", 468, 28, 412), (Str.ofString "%", 470, 24, 404), (Str.ofString "%=", 472, 40, 436), (Str.ofString "&", 474, 19, 394), (Str.ofString "&=", 476, 41, 438), (Str.ofString "(", 478, 7, 370), (Str.ofString ")", 480, 8, 372), (Str.ofString "*", 482, 16, 388), (Str.ofString "**", 484, 35, 426), (Str.ofString "**=", 486, 46, 448), (Str.ofString "*=", 488, 38, 432), (Str.ofString "+", 490, 14, 384), (Str.ofString "+=", 492, 36, 428), (Str.ofString ",", 494, 12, 380), (Str.ofString "-", 496, 15, 386), (Str.ofString "-=", 498, 37, 430), (Str.ofString "->", 500, 51, 458), (Str.ofString ".", 502, 23, 402), (Str.ofString "...", 504, 52, 460), (Str.ofString "/", 506, 17, 390), (Str.ofString "//", 508, 47, 450), (Str.ofString "//=", 510, 48, 452), (Str.ofString "/=", 512, 39, 434), (Str.ofString ":", 514, 11, 378), (Str.ofString ":=", 516, 53, 462), (Str.ofString ";", 518, 13, 382), (Str.ofString "<", 520, 20, 396), (Str.ofString "<<", 522, 33, 422), (Str.ofString "<<=", 524, 44, 444), (Str.ofString "<=", 526, 29, 414), (Str.ofString "=", 528, 22, 400), (Str.ofString "==", 530, 27, 410), (Str.ofString ">", 532, 21, 398), (Str.ofString ">=", 534, 30, 416), (Str.ofString ">>", 535, 34, 424), (Str.ofString ">>=", 536, 45, 446), (Str.ofString "@", 537, 49, 454), (Str.ofString "@=", 538, 50, 456), (Str.ofString "[", 539, 9, 374), (Str.ofString "]", 540, 10, 376), (Str.ofString "^", 541, 32, 420), (Str.ofString "^=", 542, 43, 442), (Str.ofString "{", 543, 25, 406), (Str.ofString "|", 544, 18, 392), (Str.ofString "|=", 545, 42, 440), (Str.ofString "}", 546, 26, 408), (Str.ofString "~", 547, 31, 418)]
noncomputable def rowE (P : Params) (r : Str × Tok × Int × Tok) : DictEntry := { hash := PyData.keyHash P r.1, key := .str r.1 r.2.1, val := .int r.2.2.1 r.2.2.2 }
noncomputable def tabObj (P : Params) : Obj := ⟨.type "dict", none, .dict (tabRows.map (rowE P)).toArray 48, #[]⟩
noncomputable def hkSays (w : World) (h : Heap) : Prop := h.nsMap mainGlobals (Str.ofString "EXACT_TOKEN_TYPES") = some (.ref 144) ∧ h.get? 144 = some (tabObj w.params)
theorem nsMap_keeps {h h' : Heap} {a : Addr} {x : Str} {v : Value} (e : h.nsMap a x = some v) (k : ∀ b o, h.get? b = some o → h'.get? b = some o) : h'.nsMap a x = some v := by
  unfold Heap.nsMap at *
  cases q : h.get? a with
  | none => rw [q] at e; cases e
  | some o => rw [q] at e; rw [k a o q]; exact e
noncomputable def hk : Hook := ⟨Option Value × Option Obj, fun s => (s.heap.nsMap mainGlobals (Str.ofString "EXACT_TOKEN_TYPES"), s.heap.get? 144), fun w => (some (.ref 144), some (tabObj w.params)), hkSays,
  fun _ _ e => ⟨congrArg Prod.fst e, congrArg Prod.snd e⟩, fun _ _ _ s k => ⟨nsMap_keeps s.1 k, k _ _ s.2⟩⟩
end Mine
end

section
namespace Mine
open PySem PySem.Calls PyProof.Rows

/-! what stands in a heap -/
noncomputable def Kp (h h' : Heap) : Prop := ∀ b o, h.get? b = some o → h'.get? b = some o
theorem Kp.refl (h : Heap) : Kp h h := fun _ _ e => e
theorem Kp.trans {a b c : Heap} (x : Kp a b) (y : Kp b c) : Kp a c := fun _ _ e => y _ _ (x _ _ e)
theorem Kp.push (h : Heap) (o : Obj) : Kp h (h.push o) := fun _ _ e => Heap.get?_push_of_some o e
theorem Kp.ext {h h' : Heap} (x : Heap.ExtBut h.objs.size h h') : Kp h h' := fun b o e => x b o (Nat.ne_of_lt (Heap.lt_size e)) e

mutual
/-- v stands for d in h; every list of it lies at an address of P -/
inductive Rd (h : Heap) (P : Addr → Prop) : Value → PyData → Prop
  | none : Rd h P Value.none PyData.none
  | bool (b : Bool) : Rd h P (Value.bool b) (PyData.bool b)
  | int (i : Int) (t : Tok) : Rd h P (Value.int i t) (PyData.int i)
  | str (x : Str) (t : Tok) : Rd h P (Value.str x t) (PyData.str x)
  | list {a : Addr} {vs : List Value} {n : Nat} {xs : List PyData} : P a → h.get? a = some { cls := .type "list", data := .seq vs.toArray n } → RdAll h P vs xs → Rd h P (Value.ref a) (PyData.list xs)
  | tuple {a : Addr} {o : Obj} {vs : List Value} {n : Nat} {xs : List PyData} : h.get? a = some o → o.cls = .type "tuple" → o.data = .seq vs.toArray n → RdAll h P vs xs → Rd h P (Value.ref a) (PyData.tuple xs)
inductive RdAll (h : Heap) (P : Addr → Prop) : List Value → List PyData → Prop
  | nil : RdAll h P [] []
  | cons {v : Value} {vs : List Value} {d : PyData} {ds : List PyData} : Rd h P v d → RdAll h P vs ds → RdAll h P (v :: vs) (d :: ds)
end

/-- lists at addresses of P and all tuples are kept -/
structure Sq (P P' : Addr → Prop) (h h' : Heap) : Prop where
  l : ∀ a o vs n, P a → h.get? a = some o → o.cls = .type "list" → o.data = .seq vs n → h'.get? a = some o ∧ P' a
  t : ∀ a o vs n, h.get? a = some o → o.cls = .type "tuple" → o.data = .seq vs n → h'.get? a = some o

mutual
theorem Rd.sq {P P' : Addr → Prop} {h h' : Heap} (q : Sq P P' h h') : ∀ {v : Value} {d : PyData}, Rd h P v d → Rd h' P' v d
  | _, _, .none => .none
  | _, _, .bool b => .bool b
  | _, _, .int i t => .int i t
  | _, _, .str x t => .str x t
  | _, _, .list hp h1 r => .list (q.l _ _ _ _ hp h1 rfl rfl).2 (q.l _ _ _ _ hp h1 rfl rfl).1 (RdAll.sq q r)
  | _, _, .tuple h1 h2 h3 r => .tuple (q.t _ _ _ _ h1 h2 h3) h2 h3 (RdAll.sq q r)
theorem RdAll.sq {P P' : Addr → Prop} {h h' : Heap} (q : Sq P P' h h') : ∀ {vs : List Value} {ds : List PyData}, RdAll h P vs ds → RdAll h' P' vs ds
  | _, _, .nil => .nil
  | _, _, .cons a r => .cons (Rd.sq q a) (RdAll.sq q r)
end
theorem Sq.kp {P : Addr → Prop} {h h' : Heap} (k : Kp h h') : Sq P P h h' := ⟨fun _ _ _ _ p e _ _ => ⟨k _ _ e, p⟩, fun _ _ _ _ e _ _ => k _ _ e⟩
theorem Rd.kp {P : Addr → Prop} {h h' : Heap} (k : Kp h h') {v : Value} {d : PyData} (r : Rd h P v d) : Rd h' P v d := r.sq (Sq.kp k)
theorem RdAll.kp {P : Addr → Prop} {h h' : Heap} (k : Kp h h') {v : List Value} {d : List PyData} (r : RdAll h P v d) : RdAll h' P v d := r.sq (Sq.kp k)
theorem Rd.weak {P P' : Addr → Prop} {h : Heap} (hp : ∀ a, P a → P' a) {v : Value} {d : PyData} (r : Rd h P v d) : Rd h P' v d := r.sq ⟨fun _ _ _ _ p e _ _ => ⟨e, hp _ p⟩, fun _ _ _ _ e _ _ => e⟩
theorem RdAll.weak {P P' : Addr → Prop} {h : Heap} (hp : ∀ a, P a → P' a) {v : List Value} {d : List PyData} (r : RdAll h P v d) : RdAll h P' v d := r.sq ⟨fun _ _ _ _ p e _ _ => ⟨e, hp _ p⟩, fun _ _ _ _ e _ _ => e⟩

mutual
/-- no list within -/
noncomputable def flat : PyData → Bool
  | .none | .bool _ | .int _ | .str _ => true
  | .tuple xs => flats xs
  | .list _ | .dict _ => false
noncomputable def flats : List PyData → Bool
  | [] => true
  | x :: xs => flat x && flats xs
end
theorem flats_iff : ∀ {l : List PyData}, flats l = true ↔ ∀ d ∈ l, flat d = true
  | [] => by simp [flats]
  | x :: xs => by simp [flats, flats_iff (l := xs)]
mutual
theorem Rd.flat {P P' : Addr → Prop} {h : Heap} : ∀ {v : Value} {d : PyData}, Mine.flat d = true → Rd h P v d → Rd h P' v d
  | _, _, _, .none => .none
  | _, _, _, .bool b => .bool b
  | _, _, _, .int i t => .int i t
  | _, _, _, .str x t => .str x t
  | _, _, f, .list _ _ _ => by simp [Mine.flat] at f
  | _, _, f, .tuple h1 h2 h3 r => .tuple h1 h2 h3 (RdAll.flat (by simpa [Mine.flat] using f) r)
theorem RdAll.flat {P P' : Addr → Prop} {h : Heap} : ∀ {vs : List Value} {ds : List PyData}, flats ds = true → RdAll h P vs ds → RdAll h P' vs ds
  | _, _, _, .nil => .nil
  | _, _, f, .cons a r => by
    simp only [flats, Bool.and_eq_true] at f
    exact .cons (Rd.flat f.1 a) (RdAll.flat f.2 r)
end
mutual
theorem Rd.reads {P : Addr → Prop} {h : Heap} : ∀ {v : Value} {d : PyData}, Rd h P v d → ∃ as, Reads h v d as
  | _, _, .none => ⟨_, .none⟩
  | _, _, .bool b => ⟨_, .bool b⟩
  | _, _, .int i t => ⟨_, .int i t⟩
  | _, _, .str x t => ⟨_, .str x t⟩
  | _, _, .list _ h1 r => by obtain ⟨as, q⟩ := RdAll.reads r; exact ⟨_, .list h1 rfl rfl (by simpa using q)⟩
  | _, _, .tuple h1 h2 h3 r => by obtain ⟨as, q⟩ := RdAll.reads r; exact ⟨_, .tuple h1 h2 h3 (by simpa using q)⟩
theorem RdAll.reads {P : Addr → Prop} {h : Heap} : ∀ {vs : List Value} {ds : List PyData}, RdAll h P vs ds → ∃ as, ReadsAll h vs ds as
  | _, _, .nil => ⟨_, .nil⟩
  | _, _, .cons a r => by
    obtain ⟨as, q⟩ := Rd.reads a
    obtain ⟨bs, p⟩ := RdAll.reads r
    exact ⟨_, .cons q p⟩
end

section
variable {h : Heap} {P : Addr → Prop}
theorem RdAll.length : ∀ {vs : List Value} {ds : List PyData}, RdAll h P vs ds → vs.length = ds.length
  | _, _, .nil => rfl
  | _, _, .cons _ r => by simp [RdAll.length r]
theorem RdAll.append : ∀ {vs : List Value} {ds : List PyData} {ws : List Value} {es : List PyData}, RdAll h P vs ds → RdAll h P ws es → RdAll h P (vs ++ ws) (ds ++ es)
  | _, _, _, _, .nil, r => r
  | _, _, _, _, .cons a r, r' => .cons a (RdAll.append r r')
theorem RdAll.one {v : Value} {d : PyData} (r : Rd h P v d) : RdAll h P [v] [d] := .cons r .nil
theorem RdAll.get : ∀ {vs : List Value} {ds : List PyData}, RdAll h P vs ds → ∀ {k : Nat} {d : PyData}, ds[k]? = some d → ∃ v, vs[k]? = some v ∧ Rd h P v d
  | _, _, .nil, _, _, e => by simp at e
  | _, _, .cons (v := v) a r, 0, d, e => by
    simp at e; subst e; exact ⟨v, by simp, a⟩
  | _, _, .cons a r, k + 1, d, e => by
    obtain ⟨v, h1, h2⟩ := RdAll.get r (k := k) (by simpa using e)
    exact ⟨v, by simpa using h1, h2⟩
theorem RdAll.get' : ∀ {vs : List Value} {ds : List PyData}, RdAll h P vs ds → ∀ {k : Nat} {v : Value}, vs[k]? = some v → ∃ d, ds[k]? = some d ∧ Rd h P v d
  | _, _, .nil, _, _, e => by simp at e
  | _, _, .cons (d := d) a r, 0, v, e => by
    simp at e; subst e; exact ⟨d, by simp, a⟩
  | _, _, .cons a r, k + 1, d, e => by
    obtain ⟨v, h1, h2⟩ := RdAll.get' r (k := k) (by simpa using e)
    exact ⟨v, by simpa using h1, h2⟩
theorem RdAll.drop : ∀ {vs : List Value} {ds : List PyData} (k : Nat), RdAll h P vs ds → RdAll h P (vs.drop k) (ds.drop k)
  | _, _, 0, r => r
  | _, _, k + 1, .nil => .nil
  | _, _, k + 1, .cons a r => RdAll.drop k r
theorem RdAll.take : ∀ {vs : List Value} {ds : List PyData} (k : Nat), RdAll h P vs ds → RdAll h P (vs.take k) (ds.take k)
  | _, _, 0, r => .nil
  | _, _, k + 1, .nil => .nil
  | _, _, k + 1, .cons a r => .cons a (RdAll.take k r)
theorem RdAll.reverse : ∀ {vs : List Value} {ds : List PyData}, RdAll h P vs ds → RdAll h P vs.reverse ds.reverse
  | _, _, .nil => .nil
  | _, _, .cons a r => by rw [List.reverse_cons, List.reverse_cons]; exact RdAll.append (RdAll.reverse r) (.one a)
theorem RdAll.replicate {v : Value} {d : PyData} (r : Rd h P v d) : ∀ n : Nat, RdAll h P (List.replicate n v) (List.replicate n d)
  | 0 => .nil
  | n + 1 => .cons r (RdAll.replicate r n)
end

/-! shapes of a read value -/
section
variable {h : Heap} {P : Addr → Prop} {v : Value}
theorem Rd.of_int {i : Int} (r : Rd h P v (.int i)) : ∃ t, v = .int i t := by cases r; exact ⟨_, rfl⟩
theorem Rd.of_str {x : Str} (r : Rd h P v (.str x)) : ∃ t, v = .str x t := by cases r; exact ⟨_, rfl⟩
theorem Rd.of_bool {b : Bool} (r : Rd h P v (.bool b)) : v = .bool b := by cases r; rfl
theorem Rd.of_none (r : Rd h P v .none) : v = .none := by cases r; rfl
theorem Rd.of_listP {xs : List PyData} (r : Rd h P v (.list xs)) : ∃ a vs n, v = .ref a ∧ P a ∧ h.get? a = some { cls := .type "list", data := .seq (List.toArray vs) n } ∧ RdAll h P vs xs := by
  cases r with
  | list hp h1 r => exact ⟨_, _, _, rfl, hp, h1, r⟩
theorem Rd.of_list {xs : List PyData} (r : Rd h P v (.list xs)) : ∃ a vs, v = .ref a ∧ P a ∧ h.IsList a vs.toArray ∧ RdAll h P vs xs := by
  cases r with
  | list hp h1 r => exact ⟨_, _, rfl, hp, ⟨_, h1, rfl, _, rfl⟩, r⟩
theorem Rd.of_tuple {xs : List PyData} (r : Rd h P v (.tuple xs)) : ∃ a vs, v = .ref a ∧ IsTup h a vs.toArray ∧ RdAll h P vs xs := by
  cases r with
  | tuple h1 h2 h3 r => exact ⟨_, _, rfl, ⟨_, h1, h2, _, h3⟩, r⟩
theorem Rd.mkTuple {a : Addr} {vs : List Value} {xs : List PyData} (hl : IsTup h a vs.toArray) (r : RdAll h P vs xs) : Rd h P (.ref a) (.tuple xs) := by
  obtain ⟨o, h1, h2, n, h3⟩ := hl
  exact .tuple h1 h2 h3 r
end

/-! what surrounds a call -/
structure AOk (n : Nat) (A : Around) : Prop where
  h : A.handled = none
  d : A.depth + n ≤ 900
  u : A.units + 100 + 10 * n ≤ 9000
theorem AOk.le {n k : Nat} {A : Around} (x : AOk n A) (h : k ≤ n) : AOk k A := ⟨x.h, by have := x.d; omega, by have := x.u; omega⟩
theorem AOk.deeper {n : Nat} {A : Around} (x : AOk (n + 1) A) (env : Env) : AOk n (A.deeper env) :=
  ⟨x.h, by have := x.d; show A.depth + 1 + n ≤ 900; omega, by have := x.u; show A.units + 3 + 100 + 10 * n ≤ 9000; omega⟩
theorem AOk.room {n : Nat} {A : Around} (x : AOk n A) : A.depth < recursionLimit := by have := x.d; show A.depth < 1000; omega
theorem AOk.units {n : Nat} {A : Around} (x : AOk n A) : A.units + 64 < cLine := by have := x.u; show A.units + 64 < 9900; omega

/-- every sequence and every cell is kept -/
noncomputable def Sk (h h' : Heap) : Prop := ∀ b o, h.get? b = some o → ((∃ vs n, o.data = .seq vs n) ∨ ∃ v, o.data = .cell v) → h'.get? b = some o
theorem Kp.sk {h h' : Heap} (k : Kp h h') : Sk h h' := fun b o e _ => k b o e
theorem Sk.sq {P : Addr → Prop} {h h' : Heap} (k : Sk h h') : Sq P P h h' := ⟨fun _ _ _ _ p e _ d => ⟨k _ _ e (.inl ⟨_, _, d⟩), p⟩, fun _ _ _ _ e _ d => k _ _ e (.inl ⟨_, _, d⟩)⟩
/-- a heap that differs at one address, where no sequence and no cell lies -/
theorem sk_but {h h' : Heap} {L : Addr} (hs : ∀ b o, b ≠ L → h.get? b = some o → h'.get? b = some o) (hL : ∀ o, h.get? L = some o → (∀ vs n, o.data ≠ .seq vs n) ∧ ∀ v, o.data ≠ .cell v) : Sk h h' := fun b o e d => by
  refine hs b o (fun q => ?_) e
  subst q
  rcases d with ⟨vs, n, d⟩ | ⟨v, d⟩
  · exact (hL o e).1 _ _ d
  · exact (hL o e).2 _ d
noncomputable def Stb (R : Heap → Prop) : Prop := ∀ h h', Sk h h' → R h → R h'

noncomputable abbrev F0 : Value → Shared → Prop := fun _ _ => False

end Mine
end

section
namespace Mine
open PySem PySem.Calls PyProof.Rows

/-- the text's own defs, by their place in its body -/
noncomputable def fnR (i : Nat) : DefRec := match PySem.Challenge.pw_mj0188_01.main.body[i]? with
  | some (.FunctionDef n a b _ _ _ sc _ _ p) => ⟨n, a, b, sc, p⟩
  | _ => ⟨Str.empty, ⟨[], [], none, [], [], none, []⟩, [], ⟨.function, [], false, false, []⟩, ⟨0, 0, 0, 0⟩⟩

structure Cfg where
  prog : Program
  w : World
  mg : Str → Option Value
  mb : Str → Option Value

noncomputable def tokTab : List (Str × Int) := ([("!", 54), ("!=", 28), ("%", 24), ("%=", 40), ("&", 19), ("&=", 41), ("(", 7), (")", 8), ("*", 16), ("**", 35), ("**=", 46), ("*=", 38), ("+", 14), ("+=", 36), (",", 12), ("-", 15), ("-=", 37), ("->", 51), (".", 23), ("...", 52), ("/", 17), ("//", 47), ("//=", 48), ("/=", 39), (":", 11), (":=", 53), (";", 13), ("<", 20), ("<<", 33), ("<<=", 44), ("<=", 29), ("=", 22), ("==", 27), (">", 21), (">=", 30), (">>", 34), (">>=", 45), ("@", 49), ("@=", 50), ("[", 9), ("]", 10), ("^", 32), ("^=", 43), ("{", 25), ("|", 18), ("|=", 42), ("}", 26), ("~", 31)] : List (String × Int)).map fun p => (Str.ofString p.1, p.2)
noncomputable def tokNum (k : Str) : Option Int := tokTab.lookup k
noncomputable def nameTab : List (Str × Value) := [("len", .builtin "len"), ("abs", .builtin "abs"), ("max", .builtin "max"), ("range", .type "range"), ("isinstance", .builtin "isinstance"), ("issubclass", .builtin "issubclass"), ("type", .type "type"), ("str", .type "str"), ("bytes", .type "bytes")]

noncomputable def FnAt (c : Cfg) (h : Heap) (i : Nat) : Prop := ∃ a o pm code doc, c.mg (fnR i).name = some (.ref a) ∧ h.get? a = some o ∧ o.data = .func (docDef (fnR i).name (fnR i).params (fnR i).body (fnR i).scope pm code doc) ∧ h.CodeRec code (fnR i).name

structure Gl (c : Cfg) (h : Heap) : Prop where
  g : h.Ns mainGlobals c.mg
  b : h.Ns builtinsNs c.mb
  lim : h.NoLimit
  fn : ∀ i ∈ [2, 11, 13, 14, 15, 16, 17, 18, 70, 72, 73, 74, 75, 76, 77, 78], FnAt c h i
  tab : ∃ a f, c.mg (Str.ofString "EXACT_TOKEN_TYPES") = some (.ref a) ∧ (a == sysModules) = false ∧ h.MapOf (strKind c.prog c.w) a f ∧ ∀ k, match tokNum k with | some i => ∃ t, f k = some (.int i t) | none => f k = none
  nm : ∀ p ∈ nameTab, c.mg p.1 = none ∧ c.mb p.1 = some p.2
  em : ∃ t, c.mg (Str.ofString "ENDMARKER") = some (.int 0 t)
theorem FnAt.kp {c : Cfg} {h h' : Heap} (k : Kp h h') {i : Nat} (x : FnAt c h i) : FnAt c h' i :=
  let ⟨a, o, pm, code, doc, h1, h2, h3, h4⟩ := x; ⟨a, o, pm, code, doc, h1, k _ _ h2, h3, h4.keeps k⟩
theorem Gl.kp {c : Cfg} {h h' : Heap} (k : Kp h h') (x : Gl c h) : Gl c h' where
  g := x.g.keeps k
  b := x.b.keeps k
  lim := x.lim.keeps k
  fn := fun i hi => (x.fn i hi).kp k
  tab := let ⟨a, f, h1, h2, ⟨o, es, ep, ho, r⟩, h4⟩ := x.tab; ⟨a, f, h1, h2, ⟨o, es, ep, k _ _ ho, r⟩, h4⟩
  nm := x.nm
  em := x.em

/-- a name's value in a frame, in whatever heap that keeps h -/
noncomputable def Var (c : Cfg) (env : Env) (h : Heap) (x : Str) (v : Value) : Prop :=
  ∀ (A : Around) (E : Value → Shared → Prop) (s : Shared) (Q : Value → Shared → Prop), Kp h s.heap → Q v s → wpAny (model c.prog c.w) A (loadName env x) Q E s
theorem Var.kp {c : Cfg} {env : Env} {h h' : Heap} (k : Kp h h') {x : Str} {v : Value} (r : Var c env h x v) : Var c env h' x v := fun A E s Q hk q => r A E s Q (k.trans hk) q
theorem Var.local {c : Cfg} {env : Env} {h : Heap} {m : Str → Option Value} {x : Str} {v : Value} (hk : env.scope.kind = .function) (hl : env.kindOf x = some .local) (hn : h.Ns env.locals m) (hv : m x = some v) : Var c env h x v :=
  fun _ _ _ _ k q => wpAny_loadName_local hk hl (hn.keeps k) hv q

structure Cx (c : Cfg) (env : Env) (P : Addr → Prop) (h : Heap) (γ : List (Str × PyData)) : Prop where
  gl : Gl c h
  fr : ∀ a, h.get? a = none → P a
  gv : env.globals = mainGlobals
  bv : env.builtins = builtinsNs
  kd : env.scope.kind = .function
  vars : ∀ x d, γ.lookup x = some d → ∃ v, Var c env h x v ∧ Rd h P v d
theorem Cx.kp {c : Cfg} {env : Env} {P : Addr → Prop} {h h' : Heap} {γ : List (Str × PyData)} (k : Kp h h') (x : Cx c env P h γ) : Cx c env P h' γ where
  gl := x.gl.kp k
  fr := fun a e => x.fr a (by
    cases q : h.get? a with
    | none => rfl
    | some o => rw [k _ _ q] at e; cases e)
  gv := x.gv
  bv := x.bv
  kd := x.kd
  vars := fun y d e => let ⟨v, h1, h2⟩ := x.vars y d e; ⟨v, h1.kp k, h2.kp k⟩

noncomputable def Ev (c : Cfg) (n : Nat) (env : Env) (γ : List (Str × PyData)) (e : Expr) (d : PyData) : Prop :=
  ∀ (A : Around) (s : Shared) (P : Addr → Prop) (Q : Value → Shared → Prop), AOk n A → Cx c env P s.heap γ →
    (∀ v h' tk, Kp s.heap h' → Rd h' P v d → Q v { s with heap := h', toks := tk }) → wpAny (model c.prog c.w) A (eval e env) Q F0 s
noncomputable def Tr (c : Cfg) (n : Nat) (env : Env) (γ : List (Str × PyData)) (e : Expr) (b : Bool) : Prop :=
  ∀ (A : Around) (s : Shared) (P : Addr → Prop) (Q : Bool → Shared → Prop), AOk n A → Cx c env P s.heap γ →
    (∀ h' tk, Kp s.heap h' → Q b { s with heap := h', toks := tk }) → wpAny (model c.prog c.w) A (isTrue e env (eval e env)) Q F0 s
noncomputable def Cmp (c : Cfg) (op : CmpOp) (d₁ d₂ : PyData) (b : Bool) : Prop :=
  ∀ (A : Around) (s : Shared) (v₁ v₂ : Value) (P : Addr → Prop) (Q : Value → Shared → Prop), AOk 0 A → Rd s.heap P v₁ d₁ → Rd s.heap P v₂ d₂ →
    (∀ tk, Q (.bool b) { s with toks := tk }) → wpAny (model c.prog c.w) A (compareOp op v₁ v₂) Q F0 s
noncomputable def Bin (c : Cfg) (op : Operator) (d₁ d₂ d : PyData) : Prop :=
  ∀ (A : Around) (s : Shared) (v₁ v₂ : Value) (P : Addr → Prop) (Q : Value → Shared → Prop), AOk 0 A → (∀ a, s.heap.get? a = none → P a) → Rd s.heap P v₁ d₁ → Rd s.heap P v₂ d₂ →
    (∀ v h' tk, Kp s.heap h' → Rd h' P v d → Q v { s with heap := h', toks := tk }) → wpAny (model c.prog c.w) A (binaryOp op v₁ v₂) Q F0 s
noncomputable def Tru (c : Cfg) (d : PyData) (b : Bool) : Prop :=
  ∀ (A : Around) (s : Shared) (v : Value) (P : Addr → Prop) (Q : Bool → Shared → Prop), AOk 0 A → Rd s.heap P v d → (∀ tk, Q b { s with toks := tk }) → wpAny (model c.prog c.w) A (truthy v) Q F0 s

theorem new_none (h : Heap) : h.get? h.objs.size = none := by
  cases q : h.get? h.objs.size with
  | none => rfl
  | some o => exact absurd (Heap.lt_size q) (Nat.lt_irrefl _)

section
variable {c : Cfg} {n : Nat} {env : Env} {γ : List (Str × PyData)}

theorem Ev.int {i : Int} {k : Nat} {pos : Pos} : Ev c n env γ (.Constant (.int i) k pos) (.int i) :=
  fun _ s _ _ _ _ q => wpAny_Constant_int (q _ s.heap _ (Kp.refl _) (.int _ _))
theorem Ev.str {x : Str} {k : Nat} {pos : Pos} : Ev c n env γ (.Constant (.str x) k pos) (.str x) :=
  fun _ s _ _ _ _ q => Constant_str (q _ s.heap _ (Kp.refl _) (.str _ _))
theorem Ev.cbool {x : Bool} {k : Nat} {pos : Pos} : Ev c n env γ (.Constant (.bool x) k pos) (.bool x) :=
  fun _ s _ _ _ _ q => wpAny_pure (a := Value.bool x) (q _ s.heap s.toks (Kp.refl _) (.bool _))
theorem Ev.name {x : Str} {pos : Pos} {d : PyData} (h : γ.lookup x = some d) (hd : (x == ("__debug__" : Str)) = false := by decide) : Ev c n env γ (.Name x pos) d :=
  fun A s P Q _ X q => by
    obtain ⟨v, h1, h2⟩ := X.vars x d h
    exact wpAny_Name (h1 A F0 s Q (Kp.refl _) (q v s.heap s.toks (Kp.refl _) h2)) hd

theorem Ev.bin {l r : Expr} {op : Operator} {pos : Pos} {a b d : PyData} (hb : Bin c op a b d) (h1 : Ev c n env γ l a) (h2 : Ev c n env γ r b) : Ev c n env γ (.BinOp l op r pos) d :=
  fun A s P Q hA X q => wpAny_BinOp (h1 A s P _ hA X fun v₁ g t₁ k₁ r₁ => h2 A _ P _ hA (X.kp k₁) fun v₂ g' t₂ k₂ r₂ =>
    hb A _ v₁ v₂ P _ (hA.le (Nat.zero_le _)) ((X.kp k₁).kp k₂).fr (r₁.kp k₂) r₂ fun v h' tk k r => q v h' tk ((k₁.trans k₂).trans k) r)

theorem Ev.cmp {l r : Expr} {op : CmpOp} {pos : Pos} {a b : PyData} {x : Bool} (hc : Cmp c op a b x) (h1 : Ev c n env γ l a) (h2 : Ev c n env γ r b)
    (hm : behindInMarks op r = false := by with_unfolding_all rfl) : Ev c n env γ (.Compare l [op] [r] pos) (.bool x) :=
  fun A s P Q hA X q => wpAny_Compare1 (h1 A s P _ hA X fun v₁ g t₁ k₁ r₁ => h2 A _ P _ hA (X.kp k₁) fun v₂ g' t₂ k₂ r₂ =>
    hc A _ v₁ v₂ P _ (hA.le (Nat.zero_le _)) (r₁.kp k₂) r₂ fun tk => q _ _ tk (k₁.trans k₂) (.bool _)) hm
theorem Tr.cmp {l r : Expr} {op : CmpOp} {pos : Pos} {a b : PyData} {x : Bool} (hc : Cmp c op a b x) (h1 : Ev c n env γ l a) (h2 : Ev c n env γ r b)
    (hm : behindInMarks op r = false := by with_unfolding_all rfl) : Tr c n env γ (.Compare l [op] [r] pos) x :=
  fun A s P Q hA X q => wpAny_isTrue_Compare1 (h1 A s P _ hA X fun v₁ g t₁ k₁ r₁ => h2 A _ P _ hA (X.kp k₁) fun v₂ g' t₂ k₂ r₂ =>
    hc A _ v₁ v₂ P _ (hA.le (Nat.zero_le _)) (r₁.kp k₂) r₂ fun tk => wpAny_truthy_bool (q _ tk (k₁.trans k₂))) hm
theorem Tr.not {x : Expr} {pos : Pos} {b : Bool} (h : Tr c n env γ x b) : Tr c n env γ (.UnaryOp .Not x pos) (!b) :=
  fun A s P Q hA X q => isTrue_not (h A s P _ hA X fun h' tk k => q h' tk k)
theorem Tr.plain {e : Expr} {d : PyData} {b : Bool} (ht : Tru c d b) (h : Ev c n env γ e d)
    (he : ∀ whole, isTrue e env whole = (do let v ← whole; standAt e.pos; holding [v] (truthy v)) := by intro _; rfl) : Tr c n env γ e b :=
  fun A s P Q hA X q => isTrue_plain (h A s P _ hA X fun v h' tk k r => ht A _ v P _ (hA.le (Nat.zero_le _)) r fun tk' => q h' tk' k) (he _)
theorem Tr.and1 {x : Expr} {pos : Pos} {b : Bool} (h : Tr c n env γ x b) : Tr c n env γ (.BoolOp .And [x] pos) b :=
  fun A s P Q hA X q => isTrue_and (h A s P _ hA X fun h' tk k => by
    cases b
    · exact q h' tk k
    · exact isTrue_and_nil (q h' tk k))
theorem Tr.and {x : Expr} {rest : List Expr} {pos : Pos} {b b' : Bool} (h : Tr c n env γ x b) (h' : b = true → Tr c n env γ (.BoolOp .And rest pos) b') : Tr c n env γ (.BoolOp .And (x :: rest) pos) (b && b') :=
  fun A s P Q hA X q => isTrue_and (h A s P _ hA X fun g tk k => by
    cases b
    · exact q g tk k
    · exact h' rfl A _ P _ hA (X.kp k) fun g' tk' k' => q g' tk' (k.trans k'))
theorem Tr.or1 {x : Expr} {pos : Pos} {b : Bool} (h : Tr c n env γ x b) : Tr c n env γ (.BoolOp .Or [x] pos) b :=
  fun A s P Q hA X q => isTrue_or (h A s P _ hA X fun h' tk k => by
    cases b
    · exact isTrue_or_nil (q h' tk k)
    · exact q h' tk k)
theorem Tr.or {x : Expr} {rest : List Expr} {pos : Pos} {b b' : Bool} (h : Tr c n env γ x b) (h' : b = false → Tr c n env γ (.BoolOp .Or rest pos) b') : Tr c n env γ (.BoolOp .Or (x :: rest) pos) (b || b') :=
  fun A s P Q hA X q => isTrue_or (h A s P _ hA X fun g tk k => by
    cases b
    · exact h' rfl A _ P _ hA (X.kp k) fun g' tk' k' => q g' tk' (k.trans k')
    · exact q g tk k)

/-! operators -/
theorem Bin.addI {a b : Int} : Bin c .Add (.int a) (.int b) (.int (a + b)) := fun A s v₁ v₂ P Q hA hf r₁ r₂ q => by
  obtain ⟨t, rfl⟩ := r₁.of_int; obtain ⟨u, rfl⟩ := r₂.of_int
  exact add_int (q _ s.heap _ (Kp.refl _) (.int _ _))
theorem Bin.subI {a b : Int} : Bin c .Sub (.int a) (.int b) (.int (a - b)) := fun A s v₁ v₂ P Q hA hf r₁ r₂ q => by
  obtain ⟨t, rfl⟩ := r₁.of_int; obtain ⟨u, rfl⟩ := r₂.of_int
  exact sub_int (q _ s.heap _ (Kp.refl _) (.int _ _))
theorem Bin.modI {a b : Int} (hb : b ≠ 0) : Bin c .Mod (.int a) (.int b) (.int (a.fmod b)) := fun A s v₁ v₂ P Q hA hf r₁ r₂ q => by
  obtain ⟨t, rfl⟩ := r₁.of_int; obtain ⟨u, rfl⟩ := r₂.of_int
  exact mod_int' hb (q _ s.heap _ (Kp.refl _) (.int _ _))
theorem Bin.divI {a b : Int} (hb : b ≠ 0) (hs : b.natAbs < 1073741824) : Bin c .FloorDiv (.int a) (.int b) (.int (a.fdiv b)) := fun A s v₁ v₂ P Q hA hf r₁ r₂ q => by
  obtain ⟨t, rfl⟩ := r₁.of_int; obtain ⟨u, rfl⟩ := r₂.of_int
  exact floordiv_int hb (q _ s.heap _ (Kp.refl _) (.int _ _)) (Or.inl (PyProof.noPylong_small hs))
theorem Bin.addS {a b : Str} (hs : a.length + b.length ≤ sizeLine) : Bin c .Add (.str a) (.str b) (.str (a ++ b)) := fun A s v₁ v₂ P Q hA hf r₁ r₂ q => by
  obtain ⟨t, rfl⟩ := r₁.of_str; obtain ⟨u, rfl⟩ := r₂.of_str
  exact add_str (fun t' tk => q _ s.heap tk (Kp.refl _) (.str _ _)) hs
theorem Bin.mulS {a : Str} {k : Int} (hs : MulOk a k) : Bin c .Mult (.str a) (.int k) (.str (Txt.mul a k)) := fun A s v₁ v₂ P Q hA hf r₁ r₂ q => by
  obtain ⟨t, rfl⟩ := r₁.of_str; obtain ⟨u, rfl⟩ := r₂.of_int
  exact SB.mul hs (fun t' tk => q _ s.heap tk (Kp.refl _) (.str _ _))
theorem Bin.addL {a b : List PyData} (hs : a.length + b.length ≤ sizeLine) : Bin c .Add (.list a) (.list b) (.list (a ++ b)) := fun A s v₁ v₂ P Q hA hf r₁ r₂ q => by
  obtain ⟨l, vs, rfl, hp, hl, ra⟩ := r₁.of_list
  obtain ⟨l', ws, rfl, hp', hl', rb⟩ := r₂.of_list
  have hr := RdAll.append ra rb
  have hln : vs.length + ws.length ≤ sizeLine := by rw [ra.length, rb.length]; exact hs
  obtain ⟨⟨cls, dd, data, sl⟩, ho, hc, n, hd⟩ := id hl
  obtain ⟨⟨cls2, dd2, data2, sl2⟩, ho2, hc2, n2, hd2⟩ := id hl'
  simp only at hc hd hc2 hd2
  subst hc hd hc2 hd2
  have e : vs.toArray ++ ws.toArray = (vs ++ ws).toArray := by simp
  refine concat_meets ⟨_, ho, rfl⟩ ⟨_, ho2, rfl⟩ noFill_list_add seq_list_add PySem.F.slot_list_add PySem.F.entry_list_add (PySem.F.args_list_add_2 _ _) (list_addW l l' vs.toArray ws.toArray n n2 dd dd2 sl sl2 (by simpa using hln)) ⟨ho, ho2, ?_⟩
  rw [e]
  refine q _ _ _ (Kp.push _ _) (.list (hf _ (new_none _)) (Heap.get?_push_size _ rfl) (hr.kp (Kp.push _ _)))
theorem Bin.mulL {a : List PyData} {k : Int} (hlo : -(2 ^ 63 : Int) ≤ k) (hhi : k < 2 ^ 63) (hs : a.length * k.toNat ≤ 2 ^ 24) : Bin c .Mult (.list a) (.int k) (.list (List.replicate k.toNat a).flatten) := fun A s v₁ v₂ P Q hA hf r₁ r₂ q => by
  obtain ⟨l, vs, rfl, hp, hl, ra⟩ := r₁.of_list
  obtain ⟨u, rfl⟩ := r₂.of_int
  have hln : vs.length * k.toNat ≤ 2 ^ 24 := by rw [ra.length]; exact hs
  obtain ⟨⟨cls, d, data, sl⟩, ho, hcl, n, hd⟩ := id hl
  simp only at hcl hd
  subst hcl hd
  have hsz' : vs.toArray.size * k.toNat ≤ 2 ^ 24 := by simpa using hln
  refine wpAny_binaryOp_repeat_ref (T := "list") (U := "int") (by decide) ⟨_, ho, rfl⟩ (fun s' => typeIs_int s' k u) noFill_list_mul F.fills_int_mul F.slot_int_rmul repeat_list F.slot_int_index.lookup
    (call_meets F.slot_int_rmul (typeIs_int s k u) F.entry_int_rmul (F.args_int_rmul_2 _ _) (lm_int_rmul_list_any k u l vs.toArray n d sl)
      ⟨ho, rfl, ⟨_, ho, rfl⟩, call_meets F.slot_list_mul ⟨_, ho, rfl⟩ F.entry_list_mul (F.args_list_mul_2 _ _)
        (lm_list_mul_any l vs.toArray n d sl k u (by simp [Builtin.List.listFitsIndex]; omega) (by omega) (by simp [Builtin.List.listTooLong, sizeLine]; omega))
        ⟨ho, ?_⟩⟩)
  rw [listMul_foldl_if]
  have hrep : ∀ j : Nat, RdAll s.heap P (List.replicate j vs).flatten (List.replicate j a).flatten := by
    intro j
    induction j with
    | zero => exact .nil
    | succ j ih => rw [List.replicate_succ, List.replicate_succ, List.flatten_cons, List.flatten_cons]; exact RdAll.append ra ih
  refine q _ _ _ (Kp.push _ _) (.list (hf _ (new_none _)) (Heap.get?_push_size _ rfl) ((by simpa using hrep k.toNat : RdAll s.heap P _ _).kp (Kp.push _ _)))

/-! comparisons -/
theorem Cmp.eqI {a b : Int} : Cmp c .Eq (.int a) (.int b) (a == b) := fun A s v₁ v₂ P Q hA r₁ r₂ q => by
  obtain ⟨t, rfl⟩ := r₁.of_int; obtain ⟨u, rfl⟩ := r₂.of_int
  exact eq_int (q s.toks)
theorem Cmp.gtI {a b : Int} : Cmp c .Gt (.int a) (.int b) (decide (b < a)) := fun A s v₁ v₂ P Q hA r₁ r₂ q => by
  obtain ⟨t, rfl⟩ := r₁.of_int; obtain ⟨u, rfl⟩ := r₂.of_int
  exact gt_int (q s.toks)
theorem Cmp.eqS {a b : Str} : Cmp c .Eq (.str a) (.str b) (a == b) := fun A s v₁ v₂ P Q hA r₁ r₂ q => by
  obtain ⟨t, rfl⟩ := r₁.of_str; obtain ⟨u, rfl⟩ := r₂.of_str
  exact eq_str (q s.toks)
theorem Cmp.neS {a b : Str} : Cmp c .NotEq (.str a) (.str b) (a != b) := fun A s v₁ v₂ P Q hA r₁ r₂ q => by
  obtain ⟨t, rfl⟩ := r₁.of_str; obtain ⟨u, rfl⟩ := r₂.of_str
  exact ne_str (q s.toks)
theorem Cmp.eqD {a b : PyData} (ha : SeqAt.shaped a = true) (hb : SeqAt.shaped b = true) : Cmp c .Eq a b (PyData.eqv a b) := fun A s v₁ v₂ P Q hA r₁ r₂ q => by
  obtain ⟨as, h1⟩ := r₁.reads; obtain ⟨bs, h2⟩ := r₂.reads
  exact eq_dataH h1 h2 ha hb hA.units (q s.toks)
theorem Cmp.neD {a b : PyData} (ha : SeqAt.shaped a = true) (hb : SeqAt.shaped b = true) : Cmp c .NotEq a b (!PyData.eqv a b) := fun A s v₁ v₂ P Q hA r₁ r₂ q => by
  obtain ⟨as, h1⟩ := r₁.reads; obtain ⟨bs, h2⟩ := r₂.reads
  exact ne_dataH h1 h2 ha hb hA.units (q s.toks)
theorem Cmp.inT {a : PyData} {xs : List PyData} (ha : a.canLay0 = true) (hd : a.depth ≤ 60) (hb : PyData.canLayAll0 xs = true) : Cmp c .In a (.tuple xs) (xs.any fun y => PyData.eqv y a) := fun A s v₁ v₂ P Q hA r₁ r₂ q => by
  obtain ⟨as, h1⟩ := r₁.reads; obtain ⟨bs, h2⟩ := r₂.reads
  have := Nat.min_le_right (PyData.depthAll xs) a.depth
  have := hA.units
  exact SeqAt.in_tuple_reads h2 h1 hb ha (by omega) (q s.toks)
theorem Cmp.notInT {a : PyData} {xs : List PyData} (ha : a.canLay0 = true) (hd : a.depth ≤ 60) (hb : PyData.canLayAll0 xs = true) : Cmp c .NotIn a (.tuple xs) (!xs.any fun y => PyData.eqv y a) := fun A s v₁ v₂ P Q hA r₁ r₂ q => by
  obtain ⟨as, h1⟩ := r₁.reads; obtain ⟨bs, h2⟩ := r₂.reads
  have := Nat.min_le_right (PyData.depthAll xs) a.depth
  have := hA.units
  exact SeqAt.notIn_tuple_reads h2 h1 hb ha (by omega) (q s.toks)

/-! truth -/
theorem Tru.str {x : Str} (hs : (x.length : Int) < 2 ^ 63) : Tru c (.str x) ((x.length : Int) != 0) := fun A s v P Q hA r q => by
  obtain ⟨t, rfl⟩ := r.of_str
  exact PySem.P.truthy_str (by omega) (q _)
theorem Tru.bool {x : Bool} : Tru c (.bool x) x := fun A s v P Q hA r q => by
  rw [r.of_bool]; exact wpAny_truthy_bool (q s.toks)
theorem Tru.list {xs : List PyData} (hs : (xs.length : Int) < 2 ^ 63) : Tru c (.list xs) (!xs.isEmpty) := fun A s v P Q hA r q => by
  obtain ⟨l, vs, rfl, hp, hl, ra⟩ := r.of_list
  have e := ra.length
  refine wpAny_truthy_list hl (by simpa [e] using hs) ?_
  have e2 : vs.toArray.isEmpty = xs.isEmpty := by
    cases ra <;> simp
  rw [e2]; exact q _
end
end Mine
end

section
namespace Mine
open PySem PySem.Calls PyProof.Rows

noncomputable def EvA (c : Cfg) (n : Nat) (env : Env) (γ : List (Str × PyData)) (pos : Pos) (es : List Expr) (ds : List PyData) : Prop :=
  ∀ (A : Around) (s : Shared) (P : Addr → Prop) (Q : List Value → Shared → Prop), AOk n A → Cx c env P s.heap γ →
    (∀ vs h' tk, Kp s.heap h' → RdAll h' P vs ds → Q vs { s with heap := h', toks := tk }) → wpAny (model c.prog c.w) A (spliced (backTo pos (starEach es env))) Q F0 s

/-- a def of the text: what a call of it gives -/
noncomputable def FnSpec (c : Cfg) (n : Nat) (i : Nat) (ds : List PyData) (d : PyData) : Prop :=
  ∀ (A : Around) (s : Shared) (P : Addr → Prop) (a : Addr) (o : Obj) (pm code doc : Value) (vs : List Value) (Q : Value → Shared → Prop), AOk n A → Gl c s.heap → (∀ a, s.heap.get? a = none → P a) →
    s.heap.get? a = some o → o.data = .func (docDef (fnR i).name (fnR i).params (fnR i).body (fnR i).scope pm code doc) → s.heap.CodeRec code (fnR i).name → RdAll s.heap P vs ds →
    (∀ v h' tk, Kp s.heap h' → Rd h' P v d → Q v { s with heap := h', toks := tk }) → wpAny (model c.prog c.w) A (call (.ref a) vs) Q F0 s

section
variable {c : Cfg} {n : Nat} {env : Env} {γ : List (Str × PyData)}

theorem EvA.nil {pos : Pos} : EvA c n env γ pos [] [] := fun A s P Q hA X q => args_nil (q [] s.heap s.toks (Kp.refl _) .nil)
theorem EvA.cons {pos : Pos} {e : Expr} {es : List Expr} {d : PyData} {ds : List PyData} (h : Ev c n env γ e d) (h' : EvA c n env γ pos es ds)
    (he : starEach (e :: es) env = (false, eval e env) :: starEach es env := by rfl) : EvA c n env γ pos (e :: es) (d :: ds) :=
  fun A s P Q hA X q => args_cons (h A s P _ hA X fun v g t k r => h' A _ P _ hA (X.kp k) fun vs g' t' k' r' => q (v :: vs) g' t' (k.trans k') (.cons (r.kp k') r')) he

theorem Ev.tuple {es : List Expr} {k : Nat} {pos : Pos} {ds : List PyData} (h : EvA c n env γ pos es ds) (hs : ds.length ≤ sizeLine := by (simp only [List.length_cons, List.length_nil]; decide)) : Ev c n env γ (.Tuple es k pos) (.tuple ds) :=
  fun A s P Q hA X q => Tuple_ (h A s P _ hA X fun vs g t k r => by
    refine wpAny_newObj_type (q _ _ _ (k.trans (Kp.push _ _)) (.tuple (Heap.get?_push_size _ rfl) rfl rfl (r.kp (Kp.push _ _)))) ?_
    show vs.toArray.size ≤ sizeLine
    rw [List.size_toArray, r.length]; exact hs)
theorem Ev.list {es : List Expr} {pos : Pos} {ds : List PyData} (h : EvA c n env γ pos es ds) (hs : ds.length ≤ sizeLine := by (simp only [List.length_cons, List.length_nil]; decide)) : Ev c n env γ (.List es pos) (.list ds) :=
  fun A s P Q hA X q => List_ (h A s P _ hA X fun vs g t k r => by
    refine wpAny_newObj_type (q _ _ _ (k.trans (Kp.push _ _)) (.list ((X.kp k).fr _ (new_none _)) (Heap.get?_push_size _ rfl) (r.kp (Kp.push _ _)))) ?_
    show vs.toArray.size ≤ sizeLine
    rw [List.size_toArray, r.length]; exact hs)

/-! items -/
theorem Ev.itemL {value idx : Expr} {pos : Pos} {xs : List PyData} {k : Int} {d : PyData} (h1 : Ev c n env γ value (.list xs)) (h2 : Ev c n env γ idx (.int k)) (h0 : 0 ≤ k) (hf : k < 2 ^ 63) (hx : xs[k.toNat]? = some d)
    (hs : ∀ o i, subscripted idx false o i = operate [o, i] (getItem o i) := by intro _ _; rfl) : Ev c n env γ (.Subscript value idx pos) d :=
  fun A s P Q hA X q => Subscript_ (h1 A s P _ hA X fun v g t k₁ r => h2 A _ P _ hA (X.kp k₁) fun v' g' t' k₂ r' => by
    obtain ⟨u, rfl⟩ := r'.of_int
    obtain ⟨l, vs, rfl, hp, hl, ra⟩ := (r.kp k₂).of_list
    obtain ⟨x, e1, e2⟩ := ra.get hx
    exact tail_any (Heap.IsList.typeIs (s := { s with heap := g', toks := t' }) hl) slot_list_getitem.lookup (wpAny_getItem_list hl h0 hf (by simpa using e1) (q _ _ _ (k₁.trans k₂) e2)) (hs _ _))
theorem Ev.itemLneg {value idx : Expr} {pos : Pos} {xs : List PyData} {k : Int} {d : PyData} (h1 : Ev c n env γ value (.list xs)) (h2 : Ev c n env γ idx (.int k)) (h0 : k < 0) (h3 : -(xs.length : Int) ≤ k) (hf : -(2 ^ 63) ≤ k) (hx : xs[(k + xs.length).toNat]? = some d)
    (hs : ∀ o i, subscripted idx false o i = operate [o, i] (getItem o i) := by intro _ _; rfl) : Ev c n env γ (.Subscript value idx pos) d :=
  fun A s P Q hA X q => Subscript_ (h1 A s P _ hA X fun v g t k₁ r => h2 A _ P _ hA (X.kp k₁) fun v' g' t' k₂ r' => by
    obtain ⟨u, rfl⟩ := r'.of_int
    obtain ⟨l, vs, rfl, hp, hl, ra⟩ := (r.kp k₂).of_list
    have hln := ra.length
    obtain ⟨x, e1, e2⟩ := ra.get hx
    exact tail_any (Heap.IsList.typeIs (s := { s with heap := g', toks := t' }) hl) slot_list_getitem.lookup (wpAny_getItem_list_neg hl h0 (by simpa [hln] using h3) hf (by simpa [hln] using e1) (q _ _ _ (k₁.trans k₂) e2)) (hs _ _))
theorem Ev.itemT {value idx : Expr} {pos : Pos} {xs : List PyData} {k : Int} {d : PyData} (h1 : Ev c n env γ value (.tuple xs)) (h2 : Ev c n env γ idx (.int k)) (h0 : 0 ≤ k) (hf : k < 2 ^ 63) (hx : xs[k.toNat]? = some d)
    (hs : ∀ o i, subscripted idx false o i = operate [o, i] (getItem o i) := by intro _ _; rfl) : Ev c n env γ (.Subscript value idx pos) d :=
  fun A s P Q hA X q => Subscript_ (h1 A s P _ hA X fun v g t k₁ r => h2 A _ P _ hA (X.kp k₁) fun v' g' t' k₂ r' => by
    obtain ⟨u, rfl⟩ := r'.of_int
    obtain ⟨l, vs, rfl, hl, ra⟩ := (r.kp k₂).of_tuple
    obtain ⟨x, e1, e2⟩ := ra.get hx
    have hlt : k.toNat < vs.length := (List.getElem?_eq_some_iff.mp e1).1
    refine tail_any (IsTup.typeIs (s := { s with heap := g', toks := t' }) hl) slot_tuple_getitem.lookup (getItem_tuple hl (by omega) hf (j := k.toNat) ?_ (by simpa using e1) (q _ _ _ (k₁.trans k₂) e2)) (hs _ _)
    unfold seqIndex?
    show (if (decide (0 ≤ if k < 0 then k + (vs.length : Int) else k) && decide ((if k < 0 then k + (vs.length : Int) else k) < (vs.length : Int))) = true then some (if k < 0 then k + (vs.length : Int) else k).toNat else none) = _
    rw [if_neg (show ¬ k < 0 by omega), if_pos (by simp; omega)])
theorem Ev.itemS {value idx : Expr} {pos : Pos} {x : Str} {k : Int} {ch : Nat} (h1 : Ev c n env γ value (.str x)) (h2 : Ev c n env γ idx (.int k)) (h0 : 0 ≤ k) (hf : k < 2 ^ 63) (hx : x.cps[k.toNat]? = some ch)
    (hs : ∀ o i, subscripted idx false o i = operate [o, i] (getItem o i) := by intro _ _; rfl) : Ev c n env γ (.Subscript value idx pos) (.str ⟨#[ch]⟩) :=
  fun A s P Q hA X q => Subscript_ (h1 A s P _ hA X fun v g t k₁ r => h2 A _ P _ hA (X.kp k₁) fun v' g' t' k₂ r' => by
    obtain ⟨u, rfl⟩ := r'.of_int
    obtain ⟨t₀, rfl⟩ := r.of_str
    have hlt : k.toNat < x.cps.size := (Array.getElem?_eq_some_iff.mp hx).1
    refine tail_any (typeIs_str _ _ _) slot_str_getitem.lookup (getItem_str (by simp; omega) ?_ (q _ _ _ (k₁.trans k₂) (.str _ _))) (hs _ _)
    unfold seqIndex?
    show (if (decide (0 ≤ if k < 0 then k + (x.cps.size : Int) else k) && decide ((if k < 0 then k + (x.cps.size : Int) else k) < (x.cps.size : Int))) = true then some (if k < 0 then k + (x.cps.size : Int) else k).toNat else none).bind _ = _
    rw [if_neg (show ¬ k < 0 by omega), if_pos (by simp; omega)]
    exact hx)

/-! slices -/
theorem kp_str {P : Addr → Prop} {x : Str} {s : Shared} {Q : Value → Shared → Prop} {l u : Option (Int × Tok)} {t : Tok} (hx : x.length ≤ sizeLine)
    (q : ∀ t' tk, Q (.str (Txt.slice x (l.map (·.1)) (u.map (·.1))) t') { s with toks := tk }) : (sliceMade x t l u none).post Q s :=
  post_val_or_str ⟨Nat.le_trans (Txt.slice_le x _ _) hx, fun t' k => q t' k⟩
theorem Ev.sliceTo {value e : Expr} {p pos : Pos} {x : Str} {k : Int} (h1 : Ev c n env γ value (.str x)) (h2 : Ev c n env γ e (.int k)) (hx : x.length ≤ sizeLine) : Ev c n env γ (.Subscript value (.Slice none (some e) none p) pos) (.str (Txt.slice x none (some k))) :=
  fun A s P Q hA X q => Subscript_ (h1 A s P _ hA X fun v g t k₁ r => wpAny_Slice (evalPart_none_step (evalPart_some_step (h2 A _ P _ hA (X.kp k₁) fun v' g' t' k₂ r' => evalPart_none_step (by
    obtain ⟨u, rfl⟩ := r'.of_int
    obtain ⟨t₀, rfl⟩ := r.of_str
    exact tail_any (typeIs_str _ _ _) F.slot_str_getitem.lookup (wpAny_getItem_str_slice (l := none) (u := some (k, u)) (st := none) ⟨_, Heap.get?_push_size _ rfl, rfl, rfl⟩ rfl
      (kp_str (P := P) hx fun t' tk => q _ _ _ ((k₁.trans k₂).trans (Kp.push _ _)) (.str _ _))) rfl)))))
theorem Ev.sliceFrom {value e : Expr} {p pos : Pos} {x : Str} {k : Int} (h1 : Ev c n env γ value (.str x)) (h2 : Ev c n env γ e (.int k)) (hx : x.length ≤ sizeLine) : Ev c n env γ (.Subscript value (.Slice (some e) none none p) pos) (.str (Txt.slice x (some k) none)) :=
  fun A s P Q hA X q => Subscript_ (h1 A s P _ hA X fun v g t k₁ r => wpAny_Slice (evalPart_some_step (h2 A _ P _ hA (X.kp k₁) fun v' g' t' k₂ r' => evalPart_none_step (evalPart_none_step (by
    obtain ⟨u, rfl⟩ := r'.of_int
    obtain ⟨t₀, rfl⟩ := r.of_str
    exact tail_any (typeIs_str _ _ _) F.slot_str_getitem.lookup (wpAny_getItem_str_slice (l := some (k, u)) (u := none) (st := none) ⟨_, Heap.get?_push_size _ rfl, rfl, rfl⟩ rfl
      (kp_str (P := P) hx fun t' tk => q _ _ _ ((k₁.trans k₂).trans (Kp.push _ _)) (.str _ _))) rfl)))))
theorem Ev.sliceBoth {value e e' : Expr} {p pos : Pos} {x : Str} {k j : Int} (h1 : Ev c n env γ value (.str x)) (h2 : Ev c n env γ e (.int k)) (h3 : Ev c n env γ e' (.int j)) (hx : x.length ≤ sizeLine) : Ev c n env γ (.Subscript value (.Slice (some e) (some e') none p) pos) (.str (Txt.slice x (some k) (some j))) :=
  fun A s P Q hA X q => Subscript_ (h1 A s P _ hA X fun v g t k₁ r => wpAny_Slice (evalPart_some_step (h2 A _ P _ hA (X.kp k₁) fun v' g' t' k₂ r' => evalPart_some_step (h3 A _ P _ hA ((X.kp k₁).kp k₂) fun v'' g'' t'' k₃ r'' => evalPart_none_step (by
    obtain ⟨u, rfl⟩ := r'.of_int
    obtain ⟨u', rfl⟩ := r''.of_int
    obtain ⟨t₀, rfl⟩ := r.of_str
    exact tail_any (typeIs_str _ _ _) F.slot_str_getitem.lookup (wpAny_getItem_str_slice (l := some (k, u)) (u := some (j, u')) (st := none) ⟨_, Heap.get?_push_size _ rfl, rfl, rfl⟩ rfl
      (kp_str (P := P) hx fun t' tk => q _ _ _ (((k₁.trans k₂).trans k₃).trans (Kp.push _ _)) (.str _ _))) rfl)))))

theorem Ev.sliceToL {value e : Expr} {p pos : Pos} {xs : List PyData} {k : Nat} (h1 : Ev c n env γ value (.list xs)) (h2 : Ev c n env γ e (.int k)) (hx : xs.length ≤ sizeLine) : Ev c n env γ (.Subscript value (.Slice none (some e) none p) pos) (.list (xs.take k)) :=
  fun A s P Q hA X q => Subscript_ (h1 A s P _ hA X fun v g t k₁ r => wpAny_Slice (evalPart_none_step (evalPart_some_step (h2 A _ P _ hA (X.kp k₁) fun v' g' t' k₂ r' => evalPart_none_step (by
    obtain ⟨u, rfl⟩ := r'.of_int
    obtain ⟨l, vs, rfl, hp, hl, ra⟩ := (r.kp k₂).of_list
    have hl' := hl.push { cls := .type "slice", data := .fields #[.none, .int k u, .none] }
    refine tail_any (Heap.IsList.typeIs (s := { s with heap := g'.push { cls := .type "slice", data := .fields #[.none, .int k u, .none] }, toks := t' }) hl') list_getitem_lookup
      (wpAny_getItem_list_slice hl' (Heap.IsSliceOf.new ..) .none (.int k u) .none (by simp) ?_ (by rw [List.size_toArray, ra.length]; exact hx)) rfl
    rw [slicePick_upto']
    have kk : Kp g' ((g'.push { cls := .type "slice", data := .fields #[.none, .int k u, .none] }).push { cls := .type "list", data := .seq (vs.toArray.toList.take k).toArray }) := (Kp.push _ _).trans (Kp.push _ _)
    exact q _ _ _ ((k₁.trans k₂).trans kk) (.list ((((X.kp k₁).kp k₂).kp (Kp.push _ _)).fr _ (new_none _)) (Heap.get?_push_size _ rfl) ((by simpa using ra.take k : RdAll g' P _ _).kp kk)))))))
theorem Ev.sliceFromL {value e : Expr} {p pos : Pos} {xs : List PyData} {k : Nat} (h1 : Ev c n env γ value (.list xs)) (h2 : Ev c n env γ e (.int k)) (hx : xs.length ≤ sizeLine) : Ev c n env γ (.Subscript value (.Slice (some e) none none p) pos) (.list (xs.drop k)) :=
  fun A s P Q hA X q => Subscript_ (h1 A s P _ hA X fun v g t k₁ r => wpAny_Slice (evalPart_some_step (h2 A _ P _ hA (X.kp k₁) fun v' g' t' k₂ r' => evalPart_none_step (evalPart_none_step (by
    obtain ⟨u, rfl⟩ := r'.of_int
    obtain ⟨l, vs, rfl, hp, hl, ra⟩ := (r.kp k₂).of_list
    have hl' := hl.push { cls := .type "slice", data := .fields #[.int k u, .none, .none] }
    refine tail_any (Heap.IsList.typeIs (s := { s with heap := g'.push { cls := .type "slice", data := .fields #[.int k u, .none, .none] }, toks := t' }) hl') list_getitem_lookup
      (wpAny_getItem_list_slice hl' (Heap.IsSliceOf.new ..) (.int k u) .none .none (by simp) ?_ (by rw [List.size_toArray, ra.length]; exact hx)) rfl
    rw [slicePick_from']
    have kk : Kp g' ((g'.push { cls := .type "slice", data := .fields #[.int k u, .none, .none] }).push { cls := .type "list", data := .seq (vs.toArray.toList.drop k).toArray }) := (Kp.push _ _).trans (Kp.push _ _)
    exact q _ _ _ ((k₁.trans k₂).trans kk) (.list ((((X.kp k₁).kp k₂).kp (Kp.push _ _)).fr _ (new_none _)) (Heap.get?_push_size _ rfl) ((by simpa using ra.drop k : RdAll g' P _ _).kp kk)))))))

/-! calls -/
theorem glob_fn {i : Nat} {x : Str} {p : Pos} {A : Around} {s : Shared} {P : Addr → Prop} {Q : Value → Shared → Prop} (hi : i ∈ [2, 11, 13, 14, 15, 16, 17, 18, 70, 72, 73, 74, 75, 76, 77, 78]) (X : Cx c env P s.heap γ)
    (h : ∀ a o pm code doc, s.heap.get? a = some o → o.data = .func (docDef (fnR i).name (fnR i).params (fnR i).body (fnR i).scope pm code doc) → s.heap.CodeRec code (fnR i).name → Q (.ref a) s)
    (hx : (fnR i).name = x := by rfl) (hk : env.kindOf x = some .globalImplicit := by rfl) (hd : (x == ("__debug__" : Str)) = false := by decide) :
    wpAny (model c.prog c.w) A (eval (.Name x p) env) Q F0 s := by
  obtain ⟨a, o, pm, code, doc, h1, h2, h3, h4⟩ := X.gl.fn i hi
  subst hx
  exact Name_function_global X.kd hk (loadGlobal_global (X.gv ▸ X.gl.g) h1 (h a o pm code doc h2 h3 h4)) hd
theorem glob_bi {x : Str} {v : Value} {p : Pos} {A : Around} {s : Shared} {P : Addr → Prop} {Q : Value → Shared → Prop} (hi : nameTab.lookup x = some v) (X : Cx c env P s.heap γ) (h : Q v s)
    (hk : env.kindOf x = some .globalImplicit := by rfl) (hd : (x == ("__debug__" : Str)) = false := by decide) :
    wpAny (model c.prog c.w) A (eval (.Name x p) env) Q F0 s := by
  have hm : (x, v) ∈ nameTab := mem_of_lookup hi
  obtain ⟨h1, h2⟩ := X.gl.nm _ hm
  exact Name_function_global X.kd hk (loadGlobal_builtin (X.gv ▸ X.gl.g) h1 (X.bv ▸ X.gl.b) h2 h) hd

theorem Ev.callF {i k : Nat} {x : Str} {p pos : Pos} {e : Expr} {es : List Expr} {ds : List PyData} {d : PyData} (spec : FnSpec c k i ds d) (hkn : k ≤ n) (ha : EvA c n env γ pos (e :: es) ds)
    (hi : i ∈ [2, 11, 13, 14, 15, 16, 17, 18, 70, 72, 73, 74, 75, 76, 77, 78] := by decide)
    (hx : (fnR i).name = x := by rfl) (hk : env.kindOf x = some .globalImplicit := by rfl) (hd : (x == ("__debug__" : Str)) = false := by decide)
    (he : starEach (e :: es) env = (false, eval e env) :: starEach es env := by rfl) : Ev c n env γ (.Call (.Name x p) (e :: es) [] pos) d :=
  fun A s P Q hA X q => Call_ (glob_fn hi X (fun a o pm code doc h2 h3 h4 => callWith_def h3 (ha A s P _ hA X fun vs g t k₁ r => ⟨k₁ _ _ h2,
    spec A _ P a o pm code doc vs Q (hA.le hkn) (X.gl.kp k₁) (X.kp k₁).fr (k₁ _ _ h2) h3 (h4.keeps k₁) r fun v h' tk k₂ r' => q v h' tk (k₁.trans k₂) r'⟩) he) hx hk hd) rfl

theorem Ev.callB1 {x : Str} {id : String} {p pos : Pos} {e : Expr} {d₁ d : PyData} (hi : nameTab.lookup x = some (.builtin id))
    (hc : ∀ (A : Around) (s : Shared) (P : Addr → Prop) (v : Value) (Q : Value → Shared → Prop), AOk 0 A → Rd s.heap P v d₁ → (∀ v' h' tk, Kp s.heap h' → Rd h' P v' d → Q v' { s with heap := h', toks := tk }) → wpAny (model c.prog c.w) A (call (.builtin id) [v]) Q F0 s)
    (h : Ev c n env γ e d₁) (hk : env.kindOf x = some .globalImplicit := by rfl) (hd : (x == ("__debug__" : Str)) = false := by decide)
    (he : starEach [e] env = (false, eval e env) :: starEach [] env := by rfl) : Ev c n env γ (.Call (.Name x p) [e] [] pos) d :=
  fun A s P Q hA X q => Call_ (glob_bi hi X (callWith_builtin1 (args_cons (h A s P _ hA X fun v g t k₁ r => args_nil (hc A _ P v _ (hA.le (Nat.zero_le _)) r fun v' h' tk k₂ r' => q v' h' tk (k₁.trans k₂) r')) he) he) hk hd) rfl
theorem Ev.lenS {p pos : Pos} {e : Expr} {x : Str} (hs : (x.length : Int) < 2 ^ 63) (h : Ev c n env γ e (.str x)) (hk : env.kindOf (Str.ofString "len") = some .globalImplicit := by rfl)
    (he : starEach [e] env = (false, eval e env) :: starEach [] env := by rfl) : Ev c n env γ (.Call (.Name (Str.ofString "len") p) [e] [] pos) (.int x.length) :=
  Ev.callB1 (id := "len") rfl (fun A s P v Q hA r q => by
    obtain ⟨t, rfl⟩ := r.of_str
    exact len_str (by omega) (q _ s.heap _ (Kp.refl _) (.int _ _))) h hk (by decide) he
theorem Ev.lenL {p pos : Pos} {e : Expr} {xs : List PyData} (hs : (xs.length : Int) < 2 ^ 63) (h : Ev c n env γ e (.list xs)) (hk : env.kindOf (Str.ofString "len") = some .globalImplicit := by rfl)
    (he : starEach [e] env = (false, eval e env) :: starEach [] env := by rfl) : Ev c n env γ (.Call (.Name (Str.ofString "len") p) [e] [] pos) (.int xs.length) :=
  Ev.callB1 (id := "len") rfl (fun A s P v Q hA r q => by
    obtain ⟨l, vs, rfl, hp, hl, ra⟩ := r.of_list
    have e := ra.length
    exact len_list hl (by simpa [e] using hs) (q _ s.heap _ (Kp.refl _) (by rw [List.size_toArray, e]; exact .int _ _))) h hk (by decide) he
theorem Ev.abs {p pos : Pos} {e : Expr} {a : Int} (h : Ev c n env γ e (.int a)) (hk : env.kindOf (Str.ofString "abs") = some .globalImplicit := by rfl)
    (he : starEach [e] env = (false, eval e env) :: starEach [] env := by rfl) : Ev c n env γ (.Call (.Name (Str.ofString "abs") p) [e] [] pos) (.int (if a < 0 then -a else a)) :=
  Ev.callB1 (id := "abs") rfl (fun A s P v Q hA r q => by
    obtain ⟨t, rfl⟩ := r.of_int
    exact call_abs_int fun u tk => q _ s.heap tk (Kp.refl _) (.int _ _)) h hk (by decide) he
theorem Ev.max {p pos : Pos} {e e' : Expr} {a b : Int} (h : Ev c n env γ e (.int a)) (h' : Ev c n env γ e' (.int b)) (hk : env.kindOf (Str.ofString "max") = some .globalImplicit := by rfl)
    (he : starEach [e, e'] env = (false, eval e env) :: starEach [e'] env := by rfl) (he' : starEach [e'] env = (false, eval e' env) :: starEach [] env := by rfl) :
    Ev c n env γ (.Call (.Name (Str.ofString "max") p) [e, e'] [] pos) (.int (if b > a then b else a)) :=
  fun A s P Q hA X q => Call_ (glob_bi (x := Str.ofString "max") (v := .builtin "max") rfl X (callWith_builtin1 (args_cons (h A s P _ hA X fun v g t k₁ r => args_cons (h' A _ P _ hA (X.kp k₁) fun v' g' t' k₂ r' => args_nil (by
    obtain ⟨u, rfl⟩ := r.of_int
    obtain ⟨u', rfl⟩ := r'.of_int
    refine max_two_ints hA.h fun h' tk k₃ => ?_
    split
    · exact q _ h' tk ((k₁.trans k₂).trans k₃) (by rw [if_pos (by assumption)]; exact .int _ _)
    · exact q _ h' tk ((k₁.trans k₂).trans k₃) (by rw [if_neg (by assumption)]; exact .int _ _))) he') he) he (by rw [he']; rfl)) hk) rfl

theorem Ev.methS {o arg : Expr} {name : Str} {apos pos : Pos} {id : String} {x : Str} {da d : PyData} (slot : Slot "str" name id) (ty : typeOf (.builtin id) = pure (.type "method_descriptor"))
    (hc : ∀ (A : Around) (s : Shared) (P : Addr → Prop) (t : Tok) (v : Value) (Q : Value → Shared → Prop), AOk 0 A → (∀ a, s.heap.get? a = none → P a) → Rd s.heap P v da → (∀ v' h' tk, Kp s.heap h' → Rd h' P v' d → Q v' { s with heap := h', toks := tk }) → wpAny (model c.prog c.w) A (call (.builtin id) [.str x t, v]) Q F0 s)
    (h1 : Ev c n env γ o (.str x)) (h2 : Ev c n env γ arg da)
    (hbase : attributeBase o name env (eval o env) = eval o env := by rfl) (hs : starEach [arg] env = [(false, eval arg env)] := by rfl) (hline : (apos.endLine == pos.line) = true := by rfl) :
    Ev c n env γ (.Call (.Attribute o name apos) [arg] [] pos) d :=
  fun A s P Q hA X q => Call_method1 hbase hs hline (h1 A s P _ hA X fun v g t k₁ r => by
    obtain ⟨u, rfl⟩ := r.of_str
    exact ⟨"str", id, F.plainAttrs_str, slot, ty, typeIs_str _ _ _, (fun _ e => nomatch e), Calls.callWith_builtin rfl (Calls.evalArgs_plain (Calls.spliced_cons (h2 A _ P _ hA (X.kp k₁) fun v' g' t' k₂ r' => Calls.spliced_nil
      (hc A _ P u v' _ (hA.le (Nat.zero_le _)) ((X.kp k₁).kp k₂).fr r' fun v'' h' tk k₃ r'' => q v'' h' tk ((k₁.trans k₂).trans k₃) r''))))⟩)
theorem Ev.startswith {o arg : Expr} {apos pos : Pos} {x y : Str} (h1 : Ev c n env γ o (.str x)) (h2 : Ev c n env γ arg (.str y))
    (hbase : attributeBase o (Str.ofString "startswith") env (eval o env) = eval o env := by rfl) (hs : starEach [arg] env = [(false, eval arg env)] := by rfl) (hline : (apos.endLine == pos.line) = true := by rfl) :
    Ev c n env γ (.Call (.Attribute o (Str.ofString "startswith") apos) [arg] [] pos) (.bool (Txt.startswith x y)) :=
  Ev.methS F.slot_str_startswith F.type_str_startswith (fun A s P t v Q hA hf r q => by
    obtain ⟨u, rfl⟩ := r.of_str
    exact SC.startswith (q _ s.heap s.toks (Kp.refl _) (.bool _))) h1 h2 hbase hs hline
theorem Ev.rfind {o arg : Expr} {apos pos : Pos} {x y : Str} (h1 : Ev c n env γ o (.str x)) (h2 : Ev c n env γ arg (.str y))
    (hbase : attributeBase o (Str.ofString "rfind") env (eval o env) = eval o env := by rfl) (hs : starEach [arg] env = [(false, eval arg env)] := by rfl) (hline : (apos.endLine == pos.line) = true := by rfl) :
    Ev c n env γ (.Call (.Attribute o (Str.ofString "rfind") apos) [arg] [] pos) (.int (Txt.rfind x y)) :=
  Ev.methS F.slot_str_rfind F.type_str_rfind (fun A s P t v Q hA hf r q => by
    obtain ⟨u, rfl⟩ := r.of_str
    exact SC.rfind (q _ s.heap _ (Kp.refl _) (.int _ _))) h1 h2 hbase hs hline
theorem Ev.rstrip {o arg : Expr} {apos pos : Pos} {x y : Str} (hx : x.length ≤ sizeLine) (h1 : Ev c n env γ o (.str x)) (h2 : Ev c n env γ arg (.str y))
    (hbase : attributeBase o (Str.ofString "rstrip") env (eval o env) = eval o env := by rfl) (hs : starEach [arg] env = [(false, eval arg env)] := by rfl) (hline : (apos.endLine == pos.line) = true := by rfl) :
    Ev c n env γ (.Call (.Attribute o (Str.ofString "rstrip") apos) [arg] [] pos) (.str (Txt.rstripChars x y)) :=
  Ev.methS F.slot_str_rstrip F.type_str_rstrip (fun A s P t v Q hA hf r q => by
    obtain ⟨u, rfl⟩ := r.of_str
    exact SC.rstripChars (fun t' tk => q _ s.heap tk (Kp.refl _) (.str _ _)) hx) h1 h2 hbase hs hline
theorem Ev.lstrip {o arg : Expr} {apos pos : Pos} {x y : Str} (hx : x.length ≤ sizeLine) (h1 : Ev c n env γ o (.str x)) (h2 : Ev c n env γ arg (.str y))
    (hbase : attributeBase o (Str.ofString "lstrip") env (eval o env) = eval o env := by rfl) (hs : starEach [arg] env = [(false, eval arg env)] := by rfl) (hline : (apos.endLine == pos.line) = true := by rfl) :
    Ev c n env γ (.Call (.Attribute o (Str.ofString "lstrip") apos) [arg] [] pos) (.str (Txt.lstripChars x y)) :=
  Ev.methS F.slot_str_lstrip F.type_str_lstrip (fun A s P t v Q hA hf r q => by
    obtain ⟨u, rfl⟩ := r.of_str
    exact SC.lstripChars (fun t' tk => q _ s.heap tk (Kp.refl _) (.str _ _)) hx) h1 h2 hbase hs hline

theorem strs_of {h : Heap} {P : Addr → Prop} : ∀ {vs : List Value} {xs : List Str}, RdAll h P vs (xs.map .str) → ∃ l : List (Str × Tok), vs = strValues l ∧ l.map (·.1) = xs
  | _, [], r => by cases r; exact ⟨[], rfl, rfl⟩
  | _, x :: xs, r => by
    cases r with
    | cons a r =>
      obtain ⟨t, rfl⟩ := a.of_str
      obtain ⟨l, rfl, e⟩ := strs_of r
      exact ⟨(x, t) :: l, rfl, by simp [e]⟩
theorem strs_to {h : Heap} {P : Addr → Prop} : ∀ (l : List (Str × Tok)), RdAll h P (strValues l) ((l.map (·.1)).map .str)
  | [] => .nil
  | (x, t) :: l => .cons (.str x t) (strs_to l)
theorem Ev.join {o arg : Expr} {apos pos : Pos} {x : Str} {xs : List Str} (hok : JoinOk x xs = true) (h1 : Ev c n env γ o (.str x)) (h2 : Ev c n env γ arg (.list (xs.map .str)))
    (hbase : attributeBase o (Str.ofString "join") env (eval o env) = eval o env := by rfl) (hs : starEach [arg] env = [(false, eval arg env)] := by rfl) (hline : (apos.endLine == pos.line) = true := by rfl) :
    Ev c n env γ (.Call (.Attribute o (Str.ofString "join") apos) [arg] [] pos) (.str (Txt.join x xs)) :=
  Ev.methS F.slot_str_join F.type_str_join (fun A s P t v Q hA hf r q => by
    obtain ⟨l, vs, rfl, hp, hl, ra⟩ := r.of_list
    obtain ⟨l', rfl, e⟩ := strs_of ra
    exact SC.join hl e hok fun t' tk => q _ s.heap tk (Kp.refl _) (.str _ _)) h1 h2 hbase hs hline
theorem Ev.split {o arg : Expr} {apos pos : Pos} {x y : Str} (hx : x.length ≤ sizeLine) (hy : (y.length == 0) = false) (hz : (Builtin.Str.partsBetween x (Builtin.Str.occurrences x y 0 x.length (x.length + 1)) y.length).length ≤ sizeLine) (h1 : Ev c n env γ o (.str x)) (h2 : Ev c n env γ arg (.str y))
    (hbase : attributeBase o (Str.ofString "split") env (eval o env) = eval o env := by rfl) (hs : starEach [arg] env = [(false, eval arg env)] := by rfl) (hline : (apos.endLine == pos.line) = true := by rfl) :
    Ev c n env γ (.Call (.Attribute o (Str.ofString "split") apos) [arg] [] pos) (.list ((Txt.split x y).map .str)) :=
  Ev.methS F.slot_str_split F.type_str_split (fun A s P t v Q hA hf r q => by
    obtain ⟨u, rfl⟩ := r.of_str
    have fin : ∀ (l : List (Str × Tok)) (tk : Nat), l.map (·.1) = Txt.split x y → Q (.ref s.heap.objs.size) { s with heap := s.heap.push { cls := .type "list", data := .seq (strValues l).toArray }, toks := tk } := fun l tk e =>
      q _ _ _ (Kp.push _ _) (.list (hf _ (new_none _)) (Heap.get?_push_size _ rfl) (by rw [← e]; exact strs_to l))
    cases h1 : (decide (x.length < y.length) || decide (Builtin.Str.strKind x < Builtin.Str.strKind y))
    · cases hf' : (Builtin.Str.occurrences x y 0 x.length (x.length + 1)).isEmpty
      · refine call_meets F.slot_str_split (typeIs_str _ _ _) F.entry_str_split (F.args_str_split_2 _ _) (meets_str_split_sep x y t u h1 hy hf' hx hz) ?_
        show wants Q F0 _ { s with toks := _, heap := s.heap.push { cls := .type "list", data := .seq (strsFrom s.toks (Builtin.Str.partsBetween x (Builtin.Str.occurrences x y 0 x.length (x.length + 1)) y.length)).toArray } }
        rw [strsFrom_eq]
        exact fin (numbered s.toks _) _ ((numbered_texts _ _).trans ((if_neg (ne_true_of_eq_false h1)).trans (if_neg (ne_true_of_eq_false hf'))).symm)
      · exact call_meets F.slot_str_split (typeIs_str _ _ _) F.entry_str_split (F.args_str_split_2 _ _) (meets_str_split_not_found x y t u h1 hy hf')
          (fin [(x, t)] s.toks ((if_neg (ne_true_of_eq_false h1)).trans (if_pos hf')).symm)
    · exact call_meets F.slot_str_split (typeIs_str _ _ _) F.entry_str_split (F.args_str_split_2 _ _) (meets_str_split_cannot_occur x y t u h1)
        (fin [(x, t)] s.toks (if_pos h1).symm)) h1 h2 hbase hs hline

theorem Ev.or2 {a b : Expr} {pos : Pos} {da db : PyData} {x : Bool} (h1 : Ev c n env γ a da) (ht : Tru c da x) (h2 : x = false → Ev c n env γ b db) : Ev c n env γ (.BoolOp .Or [a, b] pos) (if x then da else db) :=
  fun A s P Q hA X q => by
    show wpAny (model c.prog c.w) A (do
      let v ← eval a env
      standAt pos
      let t ← holding [v] (truthy v)
      match BoolOp.Or, t with
      | .And, false | .Or, true => pure v
      | _, _ => eval b env) Q F0 s
    refine wpAny_bind (h1 A s P _ hA X fun v g t k₁ r => wpAny_bind (wpAny_standAt (wpAny_bind (wpAny_holding (ht A _ v P _ (hA.le (Nat.zero_le _)) r fun tk => ?_)))))
    cases x
    · exact h2 rfl A _ P _ hA (X.kp k₁) fun v' g' t' k₂ r' => q v' g' t' (k₁.trans k₂) r'
    · exact wpAny_pure (q v g tk k₁ r)
theorem Ev.neg {x : Expr} {pos : Pos} {a : Int} (h : Ev c n env γ x (.int a)) : Ev c n env γ (.UnaryOp .USub x pos) (.int (-a)) :=
  fun A s P Q hA X q => by
    show wpAny (model c.prog c.w) A (do let v ← eval x env; standAt pos; holding [v] (unaryOp .USub v)) Q F0 s
    refine wpAny_bind (h A s P _ hA X fun v g t k₁ r => wpAny_bind (wpAny_standAt (wpAny_holding ?_)))
    obtain ⟨u, rfl⟩ := r.of_int
    exact PySem.P.neg_int (q _ _ _ k₁ (.int _ _))
theorem Ev.last {value : Expr} {k : Nat} {p p' pos : Pos} {xs : List PyData} {d : PyData} (h1 : Ev c n env γ value (.list xs)) (hx : xs.getLast? = some d) :
    Ev c n env γ (.Subscript value (.UnaryOp .USub (.Constant (.int 1) k p) p') pos) d := by
  have hne : xs ≠ [] := fun e => by subst e; simp at hx
  have hl : 0 < xs.length := List.length_pos_iff.mpr hne
  refine Ev.itemLneg h1 (Ev.neg Ev.int) (by omega) (by omega) (by omega) ?_ (fun _ _ => rfl)
  rw [List.getLast?_eq_getElem?] at hx
  rw [← hx]
  congr 1
  omega
end
end Mine
end

section
namespace Mine
open PySem PySem.Calls PyProof.Rows

/-- the state within a def: h₀ the heap at its call, g the heap at a turn's start, h the heap now; X: what it may change -/
structure St (c : Cfg) (env : Env) (X : List Addr) (h₀ g h : Heap) (γ : List (Str × PyData)) (fx : List (Str × Value)) (R : Heap → Prop) : Prop where
  gl : Gl c h₀
  k0 : Kp h₀ h
  x0 : ∀ b ∈ X, h₀.get? b = none
  hL : env.locals ∈ X
  gv : env.globals = mainGlobals
  bv : env.builtins = builtinsNs
  kd : env.scope.kind = .function
  ns : ∃ m, h.Ns env.locals m ∧ (∀ x d, γ.lookup x = some d → env.kindOf x = some .local ∧ ∃ v, m x = some v ∧ Rd h (fun a => a ∉ X) v d) ∧ ∀ p ∈ fx, env.kindOf p.1 = some .local ∧ m p.1 = some p.2
  xd : ∀ b ∈ X, ∃ o, h.get? b = some o ∧ (o.cls = .type "tuple" → ∀ vs n, o.data ≠ .seq vs n)
  keep : ∀ b o, b ∉ X → g.get? b = some o → h.get? b = some o
  res : R h
  stb : Stb R

section
variable {c : Cfg} {n : Nat} {env : Env} {X : List Addr} {h₀ g h h' : Heap} {γ : List (Str × PyData)} {fx : List (Str × Value)} {R : Heap → Prop}

theorem St.kp (S : St c env X h₀ g h γ fx R) (k : Kp h h') : St c env X h₀ g h' γ fx R where
  gl := S.gl
  k0 := S.k0.trans k
  x0 := S.x0
  hL := S.hL
  gv := S.gv
  bv := S.bv
  kd := S.kd
  ns := let ⟨m, h1, h2, h3⟩ := S.ns; ⟨m, h1.keeps k, fun x d e => ⟨(h2 x d e).1, let ⟨v, q1, q2⟩ := (h2 x d e).2; ⟨v, q1, q2.kp k⟩⟩, h3⟩
  xd := fun b hb => let ⟨o, h1, h2⟩ := S.xd b hb; ⟨o, k _ _ h1, h2⟩
  keep := fun b o hb e => k _ _ (S.keep b o hb e)
  res := S.stb _ _ k.sk S.res
  stb := S.stb
theorem St.rebase (S : St c env X h₀ g h γ fx R) : St c env X h₀ h h γ fx R := { S with keep := fun _ _ _ e => e }
theorem St.back {γ' : List (Str × PyData)} {fx' : List (Str × Value)} {R' : Heap → Prop} (S : St c env X h₀ g h γ fx R) (S' : St c env X h₀ h h' γ' fx' R') : St c env X h₀ g h' γ' fx' R' :=
  { S' with keep := fun b o hb e => S'.keep b o hb (S.keep b o hb e) }
theorem St.cx (S : St c env X h₀ g h γ fx R) : Cx c env (fun a => a ∉ X) h γ where
  gl := S.gl.kp S.k0
  fr := fun a e hb => by obtain ⟨o, h1, _⟩ := S.xd a hb; rw [h1] at e; cases e
  gv := S.gv
  bv := S.bv
  kd := S.kd
  vars := fun x d e => let ⟨m, h1, h2, _⟩ := S.ns; let ⟨q1, v, q2, q3⟩ := h2 x d e; ⟨v, Var.local S.kd q1 h1 q2, q3⟩
/-- fewer names -/
theorem St.less {γ' : List (Str × PyData)} (S : St c env X h₀ g h γ fx R) (hl : ∀ x d, γ'.lookup x = some d → γ.lookup x = some d) : St c env X h₀ g h γ' fx R :=
  { S with ns := let ⟨m, h1, h2, h3⟩ := S.ns; ⟨m, h1, fun x d e => h2 x d (hl x d e), h3⟩ }
noncomputable def SubL (γ : List (Str × PyData)) : List (Str × PyData) → Prop
  | [] => True
  | p :: r => γ.lookup p.1 = some p.2 ∧ SubL γ r
theorem SubL.all {γ : List (Str × PyData)} : ∀ {γ' : List (Str × PyData)}, SubL γ γ' → ∀ x d, γ'.lookup x = some d → γ.lookup x = some d
  | [], _, _, _, e => by cases e
  | (y, dy) :: r, h, x, d, e => by
    simp only [List.lookup_cons] at e
    split at e
    · rename_i hq
      have : x = y := by simpa using hq
      subst this; cases e; exact h.1
    · exact SubL.all h.2 x d e
theorem St.lessL {γ' : List (Str × PyData)} (S : St c env X h₀ g h γ fx R) (hl : SubL γ γ') : St c env X h₀ g h γ' fx R := S.less hl.all
theorem St.res' {R' : Heap → Prop} (S : St c env X h₀ g h γ fx R) (hs : Stb R') (hr : R' h) : St c env X h₀ g h γ fx R' := { S with res := hr, stb := hs }

theorem sk_ns {L : Addr} {m : Str → Option Value} (hn : h.Ns L m) (hs : ∀ b o, b ≠ L → h.get? b = some o → h'.get? b = some o) : Sk h h' := by
  obtain ⟨o, es, ep, ho, hd, _⟩ := hn
  refine sk_but hs fun o' e => ?_
  rw [ho] at e; cases e
  rw [hd]
  exact ⟨(fun _ _ q => nomatch q), (fun _ q => nomatch q)⟩

theorem St.stored (S : St c env X h₀ g h γ fx R) {m : Str → Option Value} {x : Str} {v : Value} {d : PyData} (hx : env.kindOf x = some .local) (hfx : ∀ p ∈ fx, p.1 ≠ x)
    (hn : h.Ns env.locals m) (hm : (∀ x d, γ.lookup x = some d → env.kindOf x = some .local ∧ ∃ v, m x = some v ∧ Rd h (fun a => a ∉ X) v d) ∧ ∀ p ∈ fx, env.kindOf p.1 = some .local ∧ m p.1 = some p.2)
    (hv : Rd h (fun a => a ∉ X) v d) (hn' : h'.Ns env.locals (fun y => if y = x then some v else m y)) (hs : Heap.SameBut env.locals h h') : St c env X h₀ g h' ((x, d) :: γ) fx R := by
  have sk : Sk h h' := sk_ns hn fun b o hb e => hs.extBut b o hb e
  have nl : ∀ b o, h₀.get? b = some o → b ≠ env.locals := fun b o e q => by subst q; rw [S.x0 _ S.hL] at e; cases e
  refine { S with k0 := fun b o e => hs.extBut b o (nl b o e) (S.k0 b o e), ns := ⟨_, hn', fun y dy e => ?_, fun p hp => ?_⟩, xd := fun b hb => ?_, keep := fun b o hb e => hs.extBut b o (fun q => hb (q ▸ S.hL)) (S.keep b o hb e), res := S.stb _ _ sk S.res }
  · by_cases hy : y = x
    · subst hy
      simp only [List.lookup_cons, beq_self_eq_true] at e
      cases e
      exact ⟨hx, v, by simp, hv.sq sk.sq⟩
    · have hb : (y == x) = false := by simp [hy]
      simp only [List.lookup_cons, hb] at e
      obtain ⟨q1, u, q2, q3⟩ := hm.1 y dy e
      exact ⟨q1, u, by simp [hy, q2], q3.sq sk.sq⟩
  · obtain ⟨q1, q2⟩ := hm.2 p hp
    exact ⟨q1, by simp [hfx p hp, q2]⟩
  · by_cases hbL : b = env.locals
    · subst hbL
      obtain ⟨o, es, ep, ho, hd, _⟩ := hn'
      exact ⟨o, ho, fun _ vs n q => by rw [hd] at q; cases q⟩
    · obtain ⟨o, h1, h2⟩ := S.xd b hb
      exact ⟨o, (hs.2 b hbL).trans h1, h2⟩

theorem kind_store (hk : env.scope.kind = .function) : (env.scope.kind == .class || (env.scope.kind == .module && env.locals != env.globals)) = false := by rw [hk]; rfl

theorem St.bindS {s : Shared} {A : Around} {x : Str} {v : Value} {d : PyData} {Q : Unit → Shared → Prop} (S : St c env X h₀ g s.heap γ fx R) (hv : Rd s.heap (fun a => a ∉ X) v d)
    (k : ∀ h' tk, St c env X h₀ g h' ((x, d) :: γ) fx R → Q () { s with heap := h', toks := tk }) (hx : env.kindOf x = some .local) (hfx : (fx.all fun p => !(p.1 == x)) = true) :
    wpAny (model c.prog c.w) A (storeName env x v) Q F0 s := by
  obtain ⟨m, h1, h2⟩ := S.ns
  have hfx' : ∀ p ∈ fx, p.1 ≠ x := fun p hp q => by have := List.all_eq_true.mp hfx p hp; simp [q] at this
  exact wpAny_storeName_local hx h1 (fun h' hn hs => k h' _ (S.stored hx hfx' h1 h2 hv hn hs)) (kind_store S.kd)

theorem St.bind1 {s : Shared} {A : Around} {x : Str} {p : Pos} {v : Value} {d : PyData} {Q : Unit → Shared → Prop} (S : St c env X h₀ g s.heap γ fx R) (hv : Rd s.heap (fun a => a ∉ X) v d)
    (k : ∀ h' tk, St c env X h₀ g h' ((x, d) :: γ) fx R → Q () { s with heap := h', toks := tk }) (hx : env.kindOf x = some .local := by rfl) (hfx : (fx.all fun p => !(p.1 == x)) = true := by rfl) :
    wpAny (model c.prog c.w) A (assign (.Name x p) env v) Q F0 s := wpAny_assign_Name (S.bindS hv k hx hfx)

/-- what an evaluation gives at a state -/
noncomputable def EvAt (c : Cfg) (A : Around) (s : Shared) (env : Env) (P : Addr → Prop) (e : Expr) (d : PyData) : Prop :=
  ∀ Q : Value → Shared → Prop, (∀ v h' tk, Kp s.heap h' → Rd h' P v d → Q v { s with heap := h', toks := tk }) → wpAny (model c.prog c.w) A (eval e env) Q F0 s
theorem St.ev {s : Shared} {A : Around} {e : Expr} {d : PyData} (S : St c env X h₀ g s.heap γ fx R) (hA : AOk n A) (he : Ev c n env γ e d) : EvAt c A s env (fun a => a ∉ X) e d := fun Q q => he A s _ Q hA S.cx q
theorem EvAt.flat {s : Shared} {A : Around} {e : Expr} {d : PyData} {P P' : Addr → Prop} (h : EvAt c A s env P e d) (hf : flat d = true) : EvAt c A s env P' e d := fun Q q => h Q fun v h' tk k r => q v h' tk k (r.flat hf)

theorem St.assign {s : Shared} {A : Around} {x : Str} {p pos : Pos} {e : Expr} {d : PyData} {Q : Flow → Shared → Prop} (S : St c env X h₀ g s.heap γ fx R) (he : EvAt c A s env (fun a => a ∉ X) e d)
    (k : ∀ h' tk, St c env X h₀ g h' ((x, d) :: γ) fx R → Q .next { s with heap := h', toks := tk }) (hx : env.kindOf x = some .local := by rfl) (hfx : (fx.all fun p => !(p.1 == x)) = true := by rfl)
    (hs : swapsWith e (some (.Name x p)) pos.line env = pure false := by rfl) : wpAny (model c.prog c.w) A (exec (.Assign [.Name x p] e pos) env) Q F0 s :=
  wpAny_Assign_Name (he _ fun _ h' tk k₁ r => (S.kp k₁).bindS (s := { s with heap := h', toks := tk }) r (fun h'' tk' S' => k h'' tk' S') hx hfx) hs

theorem St.ret {s : Shared} {A : Around} {pos : Pos} {e : Expr} {d : PyData} {P : Addr → Prop} {Q : Flow → Shared → Prop} (he : EvAt c A s env P e d)
    (k : ∀ v h' tk, Kp s.heap h' → Rd h' P v d → Q (.ret v) { s with heap := h', toks := tk }) : wpAny (model c.prog c.w) A (exec (.Return (some e) pos) env) Q F0 s :=
  wpAny_Return_some (he _ k)

theorem St.ite {s : Shared} {A : Around} {pos : Pos} {test : Expr} {body orelse : List Stmt} {b : Bool} {Q : Flow → Shared → Prop} (S : St c env X h₀ g s.heap γ fx R) (hA : AOk n A) (ht : Tr c n env γ test b)
    (k : ∀ h' tk, St c env X h₀ g h' γ fx R → wpAny (model c.prog c.w) A (execs (if b then body else orelse) env) Q F0 { s with heap := h', toks := tk }) : wpAny (model c.prog c.w) A (exec (.If test body orelse pos) env) Q F0 s :=
  wpAny_If (ht A s _ _ hA S.cx fun h' tk k₁ => by
    cases b
    · exact k h' tk (S.kp k₁)
    · exact k h' tk (S.kp k₁))

/-! unpacking a tuple -/
theorem Stb.rd {P : Addr → Prop} {v : Value} {d : PyData} : Stb (fun h => Rd h P v d) := fun _ _ k r => r.sq k.sq
theorem Stb.rdAll {P : Addr → Prop} {v : List Value} {d : List PyData} : Stb (fun h => RdAll h P v d) := fun _ _ k r => r.sq k.sq
theorem Stb.and {R R' : Heap → Prop} (a : Stb R) (b : Stb R') : Stb (fun h => R h ∧ R' h) := fun _ _ k r => ⟨a _ _ k r.1, b _ _ k r.2⟩
theorem Stb.true : Stb (fun _ => True) := fun _ _ _ _ => trivial

noncomputable def TgtsFor (c : Cfg) (env : Env) : List (Value → Sem Unit) → List Str → Prop
  | [], [] => True
  | t :: ts, x :: xs => (∀ (A : Around) (v : Value) (Q : Unit → Shared → Prop) (s : Shared), wpAny (model c.prog c.w) A (storeName env x v) Q F0 s → wpAny (model c.prog c.w) A (t v) Q F0 s) ∧ TgtsFor c env ts xs
  | _, _ => False
theorem St.bindAll {A : Around} {fx : List (Str × Value)} {ts : List (Value → Sem Unit)} {xs : List Str} {vs : List Value} {ds : List PyData} {γ : List (Str × PyData)} {s : Shared} {R : Heap → Prop} {Q : Unit → Shared → Prop} (ht : TgtsFor c env ts xs) (hl : xs.length = ds.length)
    (hx : (xs.all fun x => env.kindOf x == some .local && fx.all fun p => !(p.1 == x)) = true) (S : St c env X h₀ g s.heap γ fx R) (rd : RdAll s.heap (fun a => a ∉ X) vs ds)
    (k : ∀ h' tk, St c env X h₀ g h' ((xs.zip ds).reverse ++ γ) fx R → Q () { s with heap := h', toks := tk }) : wpAny (model c.prog c.w) A (assignInOrder ts vs) Q F0 s := by
  induction ts generalizing xs vs ds γ s R with
  | nil =>
    cases xs with
    | cons => exact ht.elim
    | nil =>
      cases rd with
      | nil => exact wpAny_pure (k s.heap s.toks S)
      | cons => cases hl
  | cons t ts ih =>
    cases xs with
    | nil => exact ht.elim
    | cons x xs =>
      cases rd with
      | nil => cases hl
      | cons r ra =>
        simp only [List.all_cons, Bool.and_eq_true] at hx
        refine wpAny_bind (wpAny_holding (ht.1 _ _ _ _ (St.bindS (S.res' (S.stb.and Stb.rdAll) ⟨S.res, ra⟩) r (fun h₁ tk₁ S₁ => ?_) (by simpa using hx.1.1) hx.1.2)))
        refine ih (s := { s with heap := h₁, toks := tk₁ }) ht.2 (by simpa using hl) hx.2 (S₁.res' S.stb S₁.res.1) S₁.res.2 fun h' tk S' => k h' tk ?_
        simpa using S'
theorem tgt_name {x : Str} {p : Pos} : ∀ (A : Around) (v : Value) (Q : Unit → Shared → Prop) (s : Shared), wpAny (model c.prog c.w) A (storeName env x v) Q F0 s → wpAny (model c.prog c.w) A (PySem.assign (.Name x p) env v) Q F0 s := fun _ _ _ _ h => wpAny_assign_Name h
theorem tgt_bind {x : Str} : ∀ (A : Around) (v : Value) (Q : Unit → Shared → Prop) (s : Shared), wpAny (model c.prog c.w) A (storeName env x v) Q F0 s → wpAny (model c.prog c.w) A (bindName env x v) Q F0 s := fun _ _ _ _ h => wpAny_bindName h

theorem St.unpack {s : Shared} {A : Around} {elts : List Expr} {xs : List Str} {pos : Pos} {k' : Nat} {v : Value} {ds : List PyData} {Q : Unit → Shared → Prop} (S : St c env X h₀ g s.heap γ fx R) (hA : AOk n A) (hv : Rd s.heap (fun a => a ∉ X) v (.tuple ds))
    (ht : TgtsFor c env ((assignEach elts env).map (·.2)) xs) (hl : xs.length = ds.length) (hx : (xs.all fun x => env.kindOf x == some .local && fx.all fun p => !(p.1 == x)) = true)
    (hel : (assignEach elts env).length = ds.length) (hst : (assignEach elts env).findIdx? (·.1) = none)
    (k : ∀ h' tk, St c env X h₀ g h' ((xs.zip ds).reverse ++ γ) fx R → Q () { s with heap := h', toks := tk }) :
    wpAny (model c.prog c.w) A (PySem.assign (.Tuple elts k' pos) env v) Q F0 s := by
  obtain ⟨t, vs, rfl, htp, ra⟩ := hv.of_tuple
  refine assign_Tuple_tuple hA.h htp (by rw [List.size_toArray, ra.length]; exact hel) hst fun h₁ he => ?_
  have k₁ : Kp s.heap h₁ := Kp.ext he
  exact St.bindAll (s := { s with heap := h₁ }) ht hl hx (S.kp k₁) (by simpa using ra.kp k₁) fun h' tk S' => k h' tk S'
theorem St.unpack2 {s : Shared} {A : Around} {x y : Str} {p p' pos : Pos} {k' : Nat} {v : Value} {d d' : PyData} {Q : Unit → Shared → Prop} (S : St c env X h₀ g s.heap γ fx R) (hA : AOk n A) (hv : Rd s.heap (fun a => a ∉ X) v (.tuple [d, d']))
    (k : ∀ h' tk, St c env X h₀ g h' ((y, d') :: (x, d) :: γ) fx R → Q () { s with heap := h', toks := tk })
    (hx : ([x, y].all fun x => env.kindOf x == some .local && fx.all fun p => !(p.1 == x)) = true := by rfl) :
    wpAny (model c.prog c.w) A (PySem.assign (.Tuple [.Name x p, .Name y p'] k' pos) env v) Q F0 s :=
  S.unpack hA hv (xs := [x, y]) ⟨tgt_name, tgt_name, trivial⟩ rfl hx rfl rfl fun h' tk S' => k h' tk S'
theorem St.unpack3 {s : Shared} {A : Around} {x y z : Str} {p p' p'' pos : Pos} {k' : Nat} {v : Value} {d d' d'' : PyData} {Q : Unit → Shared → Prop} (S : St c env X h₀ g s.heap γ fx R) (hA : AOk n A) (hv : Rd s.heap (fun a => a ∉ X) v (.tuple [d, d', d'']))
    (k : ∀ h' tk, St c env X h₀ g h' ((z, d'') :: (y, d') :: (x, d) :: γ) fx R → Q () { s with heap := h', toks := tk })
    (hx : ([x, y, z].all fun x => env.kindOf x == some .local && fx.all fun p => !(p.1 == x)) = true := by rfl) :
    wpAny (model c.prog c.w) A (PySem.assign (.Tuple [.Name x p, .Name y p', .Name z p''] k' pos) env v) Q F0 s :=
  S.unpack hA hv (xs := [x, y, z]) ⟨tgt_name, tgt_name, tgt_name, trivial⟩ rfl hx rfl rfl fun h' tk S' => k h' tk S'
theorem St.assign2 {s : Shared} {A : Around} {x y : Str} {p p' tp pos : Pos} {k' : Nat} {e : Expr} {d d' : PyData} {Q : Flow → Shared → Prop} (S : St c env X h₀ g s.heap γ fx R) (hA : AOk n A) (he : EvAt c A s env (fun a => a ∉ X) e (.tuple [d, d']))
    (k : ∀ h' tk, St c env X h₀ g h' ((y, d') :: (x, d) :: γ) fx R → Q .next { s with heap := h', toks := tk })
    (hx : ([x, y].all fun x => env.kindOf x == some .local && fx.all fun p => !(p.1 == x)) = true := by rfl)
    (hs : swapsWithSole [.Tuple [.Name x p, .Name y p'] k' tp] e pos.line env = pure false := by rfl) (hw : swappedStores [.Tuple [.Name x p, .Name y p'] k' tp] e env = pure none := by rfl) :
    wpAny (model c.prog c.w) A (exec (.Assign [.Tuple [.Name x p, .Name y p'] k' tp] e pos) env) Q F0 s :=
  Assign_Tuple (he _ fun _ h' tk k₁ r => (S.kp k₁).unpack2 (s := { s with heap := h', toks := tk }) hA r (fun h'' tk' S' => k h'' tk' S') hx) hs hw
theorem St.assign3 {s : Shared} {A : Around} {x y z : Str} {p p' p'' tp pos : Pos} {k' : Nat} {e : Expr} {d d' d'' : PyData} {Q : Flow → Shared → Prop} (S : St c env X h₀ g s.heap γ fx R) (hA : AOk n A) (he : EvAt c A s env (fun a => a ∉ X) e (.tuple [d, d', d'']))
    (k : ∀ h' tk, St c env X h₀ g h' ((z, d'') :: (y, d') :: (x, d) :: γ) fx R → Q .next { s with heap := h', toks := tk })
    (hx : ([x, y, z].all fun x => env.kindOf x == some .local && fx.all fun p => !(p.1 == x)) = true := by rfl)
    (hs : swapsWithSole [.Tuple [.Name x p, .Name y p', .Name z p''] k' tp] e pos.line env = pure false := by rfl) (hw : swappedStores [.Tuple [.Name x p, .Name y p', .Name z p''] k' tp] e env = pure none := by rfl) :
    wpAny (model c.prog c.w) A (exec (.Assign [.Tuple [.Name x p, .Name y p', .Name z p''] k' tp] e pos) env) Q F0 s :=
  Assign_Tuple (he _ fun _ h' tk k₁ r => (S.kp k₁).unpack3 (s := { s with heap := h', toks := tk }) hA r (fun h'' tk' S' => k h'' tk' S') hx) hs hw
/-- x, y = (a, b): the stores from behind -/
theorem St.assign2w {s : Shared} {A : Around} {x y : Str} {p p' tp pos : Pos} {k' : Nat} {e : Expr} {d d' : PyData} {Q : Flow → Shared → Prop} (S : St c env X h₀ g s.heap γ fx R) (hA : AOk n A) (he : EvAt c A s env (fun a => a ∉ X) e (.tuple [d, d']))
    (k : ∀ h' tk, St c env X h₀ g h' ((x, d) :: (y, d') :: γ) fx R → Q .next { s with heap := h', toks := tk })
    (hx : ([y, x].all fun x => env.kindOf x == some .local && fx.all fun p => !(p.1 == x)) = true := by rfl)
    (hs : swapsWithSole [.Tuple [.Name x p, .Name y p'] k' tp] e pos.line env = pure false := by rfl) (hw : swappedStores [.Tuple [.Name x p, .Name y p'] k' tp] e env = pure (some [x, y]) := by rfl) :
    wpAny (model c.prog c.w) A (exec (.Assign [.Tuple [.Name x p, .Name y p'] k' tp] e pos) env) Q F0 s :=
  Assign_Tuple_swapped (names := [x, y]) (he _ fun _ h' tk k₁ r => by
    obtain ⟨t, vs, rfl, htp, ra⟩ := r.of_tuple
    have hsz : vs.toArray.size = 2 := by rw [List.size_toArray, ra.length]; rfl
    refine (hsz ▸ unpackItems_tuple (s := { s with heap := h', toks := tk }) hA.h htp fun h₁ hx₁ => ?_ : wpAny _ A (unpackItems (.ref t) 2 none) _ _ _)
    have k₂ : Kp h' h₁ := Kp.ext hx₁
    have ra' := (ra.kp k₂).reverse
    exact St.bindAll (s := { s with heap := h₁, toks := tk }) (xs := [y, x]) (ds := [d', d]) ⟨tgt_bind, tgt_bind, trivial⟩ rfl hx ((S.kp k₁).kp k₂) (by simpa using ra') fun h'' tk' S' => k h'' tk' S') hs hw

theorem St.bindRaw {s : Shared} {A : Around} {x : Str} {v : Value} {Q : Unit → Shared → Prop} (S : St c env X h₀ g s.heap γ fx R)
    (k : ∀ h' tk, St c env X h₀ g h' γ ((x, v) :: fx) R → Q () { s with heap := h', toks := tk }) (hγ : γ.lookup x = none) (hx : env.kindOf x = some .local) (hfx : (fx.all fun p => !(p.1 == x)) = true) :
    wpAny (model c.prog c.w) A (storeName env x v) Q F0 s := by
  obtain ⟨m, h1, h2⟩ := S.ns
  have hfx' : ∀ p ∈ fx, p.1 ≠ x := fun p hp q => by have := List.all_eq_true.mp hfx p hp; simp [q] at this
  refine wpAny_storeName_local hx h1 (fun h' hn hs => k h' _ ?_) (kind_store S.kd)
  have sk : Sk s.heap h' := sk_ns h1 fun b o hb e => hs.extBut b o hb e
  have nl : ∀ b o, h₀.get? b = some o → b ≠ env.locals := fun b o e q => by subst q; rw [S.x0 _ S.hL] at e; cases e
  refine { S with k0 := fun b o e => hs.extBut b o (nl b o e) (S.k0 b o e), ns := ⟨_, hn, fun y dy e => ?_, fun p hp => ?_⟩, xd := fun b hb => ?_, keep := fun b o hb e => hs.extBut b o (fun q => hb (q ▸ S.hL)) (S.keep b o hb e), res := S.stb _ _ sk S.res }
  · have hy : y ≠ x := fun q => by subst q; rw [hγ] at e; cases e
    obtain ⟨q1, u, q2, q3⟩ := h2.1 y dy e
    exact ⟨q1, u, by simp [hy, q2], q3.sq sk.sq⟩
  · rcases List.mem_cons.mp hp with rfl | hp
    · exact ⟨hx, by simp⟩
    · obtain ⟨q1, q2⟩ := h2.2 p hp
      exact ⟨q1, by simp [hfx' p hp, q2]⟩
  · by_cases hbL : b = env.locals
    · subst hbL
      obtain ⟨o, es, ep, ho, hd, _⟩ := hn
      exact ⟨o, ho, fun _ vs n q => by rw [hd] at q; cases q⟩
    · obtain ⟨o, h1, h2⟩ := S.xd b hb
      exact ⟨o, (hs.2 b hbL).trans h1, h2⟩
theorem St.raw {x : Str} {v : Value} (S : St c env X h₀ g h γ fx R) (hm : (x, v) ∈ fx) : Var c env h x v := by
  obtain ⟨m, h1, -, h3⟩ := S.ns
  obtain ⟨q1, q2⟩ := h3 _ hm
  exact Var.local S.kd q1 h1 q2

/-! a def's call -/
/-- what a def's body must end in -/
noncomputable abbrev RetP (s : Shared) (h₀ : Heap) (d : PyData) : Flow → Shared → Prop := fun f s' => ∃ h' tk, s' = { s with heap := h', toks := tk } ∧ Kp h₀ h' ∧ Rd h' (fun a => h₀.get? a = none) (match f with | .ret v => v | _ => .none) d
theorem FnSpec.of1 {i : Nat} {d₁ d : PyData} {x : Str} (hb : ∀ pm code doc v, bindArgs (docDef (fnR i).name (fnR i).params (fnR i).body (fnR i).scope pm code doc) ⟨[v], []⟩ = pure [(x, v)])
    (body : ∀ (A : Around) (s : Shared) (h₀ : Heap) (L a : Addr) (code : Value), AOk n A → St c (envOf (fnR i).name (fnR i).scope L a code) [L] h₀ h₀ s.heap [(x, d₁)] [] (fun _ => True) →
      wpAny (model c.prog c.w) A (execs (fnR i).body (envOf (fnR i).name (fnR i).scope L a code)) (RetP s h₀ d) F0 s)
    (hl : (fnR i).scope.names.lookup x = some .local := by rfl) (hco : (fnR i).scope.isCoroutine = false := by rfl) (hgen : (fnR i).scope.isGenerator = false := by rfl) (hk : (fnR i).scope.kind = .function := by rfl)
    (hcell : ((fnR i).scope.names.all fun x => x.2 != .cell) = true := by rfl) : FnSpec c (n + 1) i [d₁] d := by
  intro A s P a o pm code doc vs Q hA G hf ho hd hcd ra q
  cases ra with
  | cons r ra =>
    cases ra
    rename_i v
    have hcell' : ∀ x ∈ (fnR i).scope.names, x.2 ≠ .cell := fun y hy e => by have := List.all_eq_true.mp hcell y hy; simp [e] at this
    refine wpAny_call (call_plain_ret (hA.room) ho hd G.lim hcd (hb _ _ _ _) (by intro y hy; simp at hy; subst hy; exact hl) (fun h₁ Fr₁ => ?_) hco hgen hk hcell')
    have hn0 := new_none s.heap
    have k1 : Kp s.heap h₁ := Fr₁.keep
    have S : St c (envOf (fnR i).name (fnR i).scope s.heap.objs.size a code) [s.heap.objs.size] s.heap s.heap h₁ [(x, d₁)] [] (fun _ => True) := by
      refine { gl := G, k0 := k1, x0 := ?_, hL := .head _, gv := rfl, bv := rfl, kd := hk, ns := ⟨_, Fr₁.ns, ?_, fun p hp => (nomatch hp)⟩, xd := ?_, keep := fun b o _ e => k1 b o e, res := trivial, stb := Stb.true }
      · intro b hb'; simp at hb'; subst hb'; exact hn0
      · intro y dy e
        have : y = x ∧ d₁ = dy := by
          simp only [List.lookup_cons, List.lookup_nil] at e
          split at e
          · rename_i hq; exact ⟨by simpa using hq, by injection e⟩
          · cases e
        obtain ⟨rfl, rfl⟩ := this
        refine ⟨hl, v, by simp, ?_⟩
        have r' : Rd s.heap (fun a => ¬ s.heap.get? a = none) v d₁ := r.sq ⟨fun b o vs n hp e _ _ => ⟨e, fun hn => by rw [hn] at e; cases e⟩, fun _ _ _ _ e _ _ => e⟩
        exact (r'.kp k1).weak fun b hb' hm => by simp at hm; subst hm; exact hb' hn0
      · intro b hb'; simp at hb'; subst hb'
        obtain ⟨o', es, ep, ho', hd', _⟩ := Fr₁.ns
        exact ⟨o', ho', fun _ vs n e => by rw [hd'] at e; cases e⟩
    refine wpAny_mono (body _ _ s.heap s.heap.objs.size a code (hA.deeper _) S) (fun f s' hq => ?_) fun _ _ e => e
    obtain ⟨h', tk, rfl, k2, r2⟩ := hq
    exact q _ h' tk k2 (r2.weak fun b hb' => hf b hb')
theorem FnSpec.of2 {i : Nat} {d₁ d₂ d : PyData} {x y : Str} (hxy : (y == x) = false) (hb : ∀ pm code doc v v', bindArgs (docDef (fnR i).name (fnR i).params (fnR i).body (fnR i).scope pm code doc) ⟨[v, v'], []⟩ = pure [(x, v), (y, v')])
    (body : ∀ (A : Around) (s : Shared) (h₀ : Heap) (L a : Addr) (code : Value), AOk n A → St c (envOf (fnR i).name (fnR i).scope L a code) [L] h₀ h₀ s.heap [(y, d₂), (x, d₁)] [] (fun _ => True) →
      wpAny (model c.prog c.w) A (execs (fnR i).body (envOf (fnR i).name (fnR i).scope L a code)) (RetP s h₀ d) F0 s)
    (hl : (fnR i).scope.names.lookup x = some .local := by rfl) (hl' : (fnR i).scope.names.lookup y = some .local := by rfl) (hco : (fnR i).scope.isCoroutine = false := by rfl) (hgen : (fnR i).scope.isGenerator = false := by rfl) (hk : (fnR i).scope.kind = .function := by rfl)
    (hcell : ((fnR i).scope.names.all fun x => x.2 != .cell) = true := by rfl) : FnSpec c (n + 1) i [d₁, d₂] d := by
  intro A s P a o pm code doc vs Q hA G hf ho hd hcd ra q
  cases ra with
  | cons r ra => cases ra with
    | cons r' ra =>
      cases ra
      rename_i v v'
      have hcell' : ∀ x ∈ (fnR i).scope.names, x.2 ≠ .cell := fun y hy e => by have := List.all_eq_true.mp hcell y hy; simp [e] at this
      refine wpAny_call (call_plain_ret (hA.room) ho hd G.lim hcd (hb _ _ _ _ _) (by intro z hz; simp at hz; rcases hz with rfl | rfl; exact hl; exact hl') (fun h₁ Fr₁ => ?_) hco hgen hk hcell')
      have hn0 := new_none s.heap
      have k1 : Kp s.heap h₁ := Fr₁.keep
      have up : ∀ {v d}, Rd s.heap P v d → Rd h₁ (fun a => a ∉ [s.heap.objs.size]) v d := fun {v d} r => by
        have r' : Rd s.heap (fun a => ¬ s.heap.get? a = none) v d := r.sq ⟨fun b o vs n hp e _ _ => ⟨e, fun hn => by rw [hn] at e; cases e⟩, fun _ _ _ _ e _ _ => e⟩
        exact (r'.kp k1).weak fun b hb' hm => by simp at hm; subst hm; exact hb' hn0
      have S : St c (envOf (fnR i).name (fnR i).scope s.heap.objs.size a code) [s.heap.objs.size] s.heap s.heap h₁ [(y, d₂), (x, d₁)] [] (fun _ => True) := by
        refine { gl := G, k0 := k1, x0 := ?_, hL := .head _, gv := rfl, bv := rfl, kd := hk, ns := ⟨_, Fr₁.ns, ?_, fun p hp => (nomatch hp)⟩, xd := ?_, keep := fun b o _ e => k1 b o e, res := trivial, stb := Stb.true }
        · intro b hb'; simp at hb'; subst hb'; exact hn0
        · intro z dz e
          simp only [List.lookup_cons, List.lookup_nil] at e
          split at e
          · rename_i hq
            have hz : z = y := by simpa using hq
            subst hz; cases e
            exact ⟨hl', v', by simp, up r'⟩
          · rename_i hq
            split at e
            · rename_i hq'
              have hz : z = x := by simpa using hq'
              subst hz; cases e
              have hq2 : (z == y) = false := by simpa using hq
              exact ⟨hl, v, by simp [List.lookup_cons, hq2], up r⟩
            · cases e
        · intro b hb'; simp at hb'; subst hb'
          obtain ⟨o', es, ep, ho', hd', _⟩ := Fr₁.ns
          exact ⟨o', ho', fun _ vs n e => by rw [hd'] at e; cases e⟩
      refine wpAny_mono (body _ _ s.heap s.heap.objs.size a code (hA.deeper _) S) (fun f s' hq => ?_) fun _ _ e => e
      obtain ⟨h', tk, rfl, k2, r2⟩ := hq
      exact q _ h' tk k2 (r2.weak fun b hb' => hf b hb')
end
end Mine
end

section
namespace Mine
open PySem PySem.Calls PyProof.Rows

theorem lt_ne : Value.type "list" ≠ Value.type "tuple" := by decide
/-- a list of the def's own, at a, of items without lists -/
noncomputable def Own (a : Addr) (ds : List PyData) : Heap → Prop := fun h => ∃ vs n, h.get? a = some { cls := .type "list", data := .seq (List.toArray vs) n } ∧ RdAll h (fun _ => False) vs ds
theorem Own.stb {a : Addr} {ds : List PyData} : Stb (Own a ds) := fun _ _ k ⟨vs, n, h1, h2⟩ => ⟨vs, n, k _ _ h1 (.inl ⟨_, _, rfl⟩), h2.sq k.sq⟩
theorem Own.rd {a : Addr} {ds : List PyData} {h : Heap} {P : Addr → Prop} (o : Own a ds h) (hp : P a) : Rd h P (.ref a) (.list ds) := let ⟨_, _, h1, h2⟩ := o; .list hp h1 (h2.weak fun _ f => f.elim)

section
variable {c : Cfg} {n : Nat} {env : Env} {X : List Addr} {h₀ g h h' : Heap} {γ : List (Str × PyData)} {fx : List (Str × Value)} {R R' : Heap → Prop} {s : Shared} {A : Around} {a : Addr} {ds : List PyData}

/-- a write to a list of the def's own -/
theorem St.mut {vs vs' : Array Value} {k k' : Nat} (S : St c env X h₀ g h γ fx R) (ha : a ∈ X) (hL : a ≠ env.locals) (ho : h.get? a = some { cls := .type "list", data := .seq vs k }) (ho' : h'.get? a = some { cls := .type "list", data := .seq vs' k' })
    (hs : Heap.SameBut a h h') (stb' : Stb R') (hr : R' h') : St c env X h₀ g h' γ fx R' := by
  have q : Sq (fun b => b ∉ X) (fun b => b ∉ X) h h' := ⟨fun b o vs n p e _ _ => ⟨hs.extBut b o (fun w => p (w ▸ ha)) e, p⟩, fun b o vs n e hc _ => hs.extBut b o (fun w => by subst w; rw [ho] at e; cases e; exact absurd hc lt_ne) e⟩
  refine { S with k0 := fun b o e => hs.extBut b o (fun w => by subst w; rw [S.x0 _ ha] at e; cases e) (S.k0 b o e), ns := ?_, xd := fun b hb => ?_, keep := fun b o hb e => hs.extBut b o (fun w => hb (w ▸ ha)) (S.keep b o hb e), res := hr, stb := stb' }
  · obtain ⟨m, h1, h2, h3⟩ := S.ns
    exact ⟨m, h1.sameBut hs (Ne.symm hL), fun x d e => ⟨(h2 x d e).1, let ⟨v, q1, q2⟩ := (h2 x d e).2; ⟨v, q1, q2.sq q⟩⟩, h3⟩
  · by_cases hb' : b = a
    · subst hb'; exact ⟨_, ho', fun w => absurd w lt_ne⟩
    · obtain ⟨o, h1, h2⟩ := S.xd b hb
      exact ⟨o, (hs.2 b hb').trans h1, h2⟩
/-- a new list of the def's own -/
theorem St.own (S : St c env X h₀ g h γ fx R) : St c env (h.objs.size :: X) h₀ g (h.push { cls := .type "list", data := .seq #[] }) γ fx (fun h' => R h' ∧ Own h.objs.size [] h') := by
  have k : Kp h (h.push { cls := .type "list", data := .seq #[] }) := Kp.push _ _
  have S' := S.kp k
  have nn := new_none h
  refine { S' with x0 := ?_, hL := .tail _ S.hL, ns := ?_, xd := ?_, keep := fun b o hb e => S'.keep b o (fun w => hb (.tail _ w)) e, res := ⟨S'.res, [], 0, Heap.get?_push_size _ rfl, .nil⟩, stb := S.stb.and Own.stb }
  · intro b hb
    rcases List.mem_cons.mp hb with rfl | hb
    · cases e : h₀.get? h.objs.size with
      | none => rfl
      | some o => rw [S.k0 _ _ e] at nn; cases nn
    · exact S.x0 b hb
  · obtain ⟨m, h1, h2, h3⟩ := S.ns
    refine ⟨m, h1.keeps k, fun x d e => ⟨(h2 x d e).1, let ⟨v, q1, q2⟩ := (h2 x d e).2; ⟨v, q1, q2.sq ⟨fun b o vs n p e _ _ => ⟨k _ _ e, fun w => ?_⟩, fun b o vs n e _ _ => k _ _ e⟩⟩⟩, h3⟩
    rcases List.mem_cons.mp w with rfl | w
    · rw [nn] at e; cases e
    · exact p w
  · intro b hb
    rcases List.mem_cons.mp hb with rfl | hb
    · exact ⟨_, Heap.get?_push_size _ rfl, fun w => absurd w lt_ne⟩
    · exact S'.xd b hb
theorem St.newOwn {x : Str} {p lp pos : Pos} {Q : Flow → Shared → Prop} (S : St c env X h₀ g s.heap γ fx R)
    (k : ∀ h' tk a, a ∉ X → h₀.get? a = none → St c env (a :: X) h₀ g h' γ ((x, .ref a) :: fx) (fun h' => R h' ∧ Own a [] h') → Q .next { s with heap := h', toks := tk })
    (hγ : γ.lookup x = none := by rfl) (hx : env.kindOf x = some .local := by rfl) (hfx : (fx.all fun p => !(p.1 == x)) = true := by rfl) (hs : swapsWith (.List [] lp) (some (.Name x p)) pos.line env = pure false := by rfl) :
    wpAny (model c.prog c.w) A (exec (.Assign [.Name x p] (.List [] lp) pos) env) Q F0 s := by
  refine wpAny_Assign_Name (List_ (args_nil (wpAny_newObj_type ?_ (by show 0 ≤ sizeLine; exact Nat.zero_le _)))) hs
  have S' := S.own
  have hX : s.heap.objs.size ∉ X := fun w => by obtain ⟨o, h1, _⟩ := S.xd _ w; rw [new_none] at h1; cases h1
  exact St.bindRaw (s := { s with heap := s.heap.push { cls := .type "list", data := .seq #[] } }) S' (fun h' tk S'' => k h' tk _ hX (S'.x0 _ (.head _)) S'') hγ hx hfx
theorem mapSeq_get {vs : Array Value} {k : Nat} {f : Array Value → Array Value} (ho : h.get? a = some { cls := .type "list", data := .seq vs k }) :
    ∃ k', (h.update a (Obj.mapSeq f)).get? a = some { cls := .type "list", data := .seq (f vs) k' } := ⟨_, Heap.get?_update_self _ ho rfl⟩

/-- a method of a list of the def's own, one argument -/
theorem own_meth1 {x name : Str} {p ap cp : Pos} {id : String} {arg : Expr} {d : PyData} {P : Addr → Prop} {Q : Value → Shared → Prop} (S : St c env X h₀ g s.heap γ fx (fun h => R h ∧ Own a ds h)) (hm : (x, .ref a) ∈ fx)
    (slot : Slot "list" name id) (ty : typeOf (.builtin id) = pure (.type "method_descriptor")) (he : EvAt c A s env P arg d)
    (k : ∀ v h' tk, Kp s.heap h' → Rd h' P v d → St c env X h₀ g h' γ fx (fun h => R h ∧ Own a ds h) → wpAny (model c.prog c.w) A (call (.builtin id) [.ref a, v]) Q F0 { s with heap := h', toks := tk })
    (hbase : attributeBase (.Name x p) name env (eval (.Name x p) env) = eval (.Name x p) env := by rfl) (hs : starEach [arg] env = [(false, eval arg env)] := by rfl) (hline : (ap.endLine == cp.line) = true := by rfl) (hd : (x == ("__debug__" : Str)) = false := by decide) :
    wpAny (model c.prog c.w) A (eval (.Call (.Attribute (.Name x p) name ap) [arg] [] cp) env) Q F0 s := by
  refine Call_method1 hbase hs hline (wpAny_Name (S.raw hm _ _ _ _ (Kp.refl _) ?_) hd)
  obtain ⟨-, vs, n, h1, h2⟩ := S.res
  exact ⟨"list", id, F.plainAttrs_list, slot, ty, ⟨_, h1, rfl⟩, (fun b e => by cases e; exact ⟨_, h1, rfl⟩), Calls.callWith_builtin rfl (Calls.evalArgs_plain (Calls.spliced_cons (he _ fun v h' tk k₁ r => Calls.spliced_nil (k v h' tk k₁ r (S.kp k₁)))))⟩
theorem own_meth0 {x name : Str} {p ap cp : Pos} {id : String} {Q : Value → Shared → Prop} (S : St c env X h₀ g s.heap γ fx (fun h => R h ∧ Own a ds h)) (hm : (x, .ref a) ∈ fx)
    (slot : Slot "list" name id) (ty : typeOf (.builtin id) = pure (.type "method_descriptor"))
    (k : wpAny (model c.prog c.w) A (call (.builtin id) [.ref a]) Q F0 s)
    (hbase : attributeBase (.Name x p) name env (eval (.Name x p) env) = eval (.Name x p) env := by rfl) (hline : (ap.endLine == cp.line) = true := by rfl) (hd : (x == ("__debug__" : Str)) = false := by decide) :
    wpAny (model c.prog c.w) A (eval (.Call (.Attribute (.Name x p) name ap) [] [] cp) env) Q F0 s := by
  refine Call_method0 hbase hline (wpAny_Name (S.raw hm _ _ _ _ (Kp.refl _) ?_) hd)
  obtain ⟨-, vs, n, h1, h2⟩ := S.res
  exact ⟨"list", id, F.plainAttrs_list, slot, ty, ⟨_, h1, rfl⟩, (fun b e => by cases e; exact ⟨_, h1, rfl⟩), Calls.callWith_builtin (args := []) rfl (PyProof.Rows.evalArgs_none (by simpa using k))⟩

theorem St.append {x : Str} {p ap cp pos : Pos} {arg : Expr} {d : PyData} {P : Addr → Prop} {Q : Flow → Shared → Prop} (S : St c env X h₀ g s.heap γ fx (fun h => R h ∧ Own a ds h)) (hm : (x, .ref a) ∈ fx) (ha : a ∈ X) (hL : a ≠ env.locals)
    (he : EvAt c A s env P arg d) (hf : flat d = true) (hn : ds.length ≤ 1000)
    (k : ∀ h' tk, St c env X h₀ g h' γ fx (fun h => R h ∧ Own a (ds ++ [d]) h) → Q .next { s with heap := h', toks := tk })
    (hR : Stb R) (hR' : ∀ h h', (∀ b o, b ≠ a → h.get? b = some o → h'.get? b = some o) → R h → R h')
    (hbase : attributeBase (.Name x p) (Str.ofString "append") env (eval (.Name x p) env) = eval (.Name x p) env := by rfl) (hs : starEach [arg] env = [(false, eval arg env)] := by rfl) (hline : (ap.endLine == cp.line) = true := by rfl) (hd : (x == ("__debug__" : Str)) = false := by decide)
    (hi : interactive env = false := by rfl) (hsw : swapsWith (.Call (.Attribute (.Name x p) (Str.ofString "append") ap) [arg] [] cp) none pos.line env = pure false := by rfl) :
    wpAny (model c.prog c.w) A (exec (.Expr (.Call (.Attribute (.Name x p) (Str.ofString "append") ap) [arg] [] cp) pos) env) Q F0 s := by
  refine wpAny_Expr (own_meth1 S hm F.slot_list_append F.type_list_append he (fun v h' tk k₁ r S' => ?_) hbase hs hline hd) hi hsw
  obtain ⟨hr, vs, m, h1, h2⟩ := S'.res
  have hln := h2.length
  refine wpAny_list_append_plain (s := { s with heap := h', toks := tk }) ⟨m, h1⟩ (fun h'' ⟨m', hp⟩ hsb => ?_) (by rw [List.size_toArray, hln, sizeLine_eq]; omega)
  have q : Sq (fun _ => False) (fun _ => False) h' h'' := ⟨fun _ _ _ _ f => f.elim, fun b o vs n e hc _ => hsb.extBut b o (fun w => by subst w; rw [h1] at e; cases e; exact absurd hc lt_ne) e⟩
  refine k h'' tk (S'.mut ha hL h1 hp hsb (hR.and Own.stb) ⟨hR' _ _ (fun b o hb e => hsb.extBut b o hb e) hr, vs ++ [v], m', by simpa using hp, ?_⟩)
  exact RdAll.append (h2.sq q) (.one ((r.flat hf).sq q))

theorem St.extend {x : Str} {p ap cp pos : Pos} {arg : Expr} {es : List PyData} {P : Addr → Prop} {Q : Flow → Shared → Prop} (S : St c env X h₀ g s.heap γ fx (fun h => R h ∧ Own a ds h)) (hm : (x, .ref a) ∈ fx) (ha : a ∈ X) (hL : a ≠ env.locals)
    (he : EvAt c A s env P arg (.list es)) (hf : flats es = true) (hn : ds.length ≤ 1000) (hn' : es.length ≤ 1000)
    (k : ∀ h' tk, St c env X h₀ g h' γ fx (fun h => R h ∧ Own a (ds ++ es) h) → Q .next { s with heap := h', toks := tk })
    (hR : Stb R) (hR' : ∀ h h', (∀ b o, b ≠ a → h.get? b = some o → h'.get? b = some o) → R h → R h')
    (hbase : attributeBase (.Name x p) (Str.ofString "extend") env (eval (.Name x p) env) = eval (.Name x p) env := by rfl) (hs : starEach [arg] env = [(false, eval arg env)] := by rfl) (hline : (ap.endLine == cp.line) = true := by rfl) (hd : (x == ("__debug__" : Str)) = false := by decide)
    (hi : interactive env = false := by rfl) (hsw : swapsWith (.Call (.Attribute (.Name x p) (Str.ofString "extend") ap) [arg] [] cp) none pos.line env = pure false := by rfl) :
    wpAny (model c.prog c.w) A (exec (.Expr (.Call (.Attribute (.Name x p) (Str.ofString "extend") ap) [arg] [] cp) pos) env) Q F0 s := by
  refine wpAny_Expr (own_meth1 S hm F.slot_list_extend F.type_list_extend he (fun v h' tk k₁ r S' => ?_) hbase hs hline hd) hi hsw
  obtain ⟨hr, vs, m, h1, h2⟩ := S'.res
  obtain ⟨b, ws, mb, rfl, hp, hb, rb⟩ := r.of_listP
  have hln := h2.length
  have hln' := rb.length
  refine call_meets F.slot_list_extend (s := { s with heap := h', toks := tk }) ⟨_, h1, rfl⟩ F.entry_list_extend (F.args_list_extend_2 _ _) (AutoSeq1.list_extend_list_list_0 a vs.toArray m b ws.toArray mb ?_ ?_ ?_) ⟨h1, hb, ?_⟩
  · simp only [List.size_toArray, Builtin.List.listTooLong, hln, hln']
    simp [sizeLine]
    omega
  · rw [List.size_toArray, hln, sizeLine_eq]; omega
  · rw [List.size_toArray, List.size_toArray, hln, hln', sizeLine_eq]; omega
  · have hsb : Heap.SameBut a h' (h'.update a (Obj.mapSeq fun x => x ++ ws.toArray)) := Heap.SameBut.update ..
    obtain ⟨m', hp'⟩ := mapSeq_get (f := fun x => x ++ ws.toArray) h1
    have q : ∀ {P : Addr → Prop}, (∀ b, P b → b ≠ a) → Sq P P h' (h'.update a (Obj.mapSeq fun x => x ++ ws.toArray)) := fun hP => ⟨fun b o _ _ hb e _ _ => ⟨hsb.extBut b o (hP b hb) e, hb⟩, fun b o vs n e hc _ => hsb.extBut b o (fun w => by subst w; rw [h1] at e; cases e; exact absurd hc lt_ne) e⟩
    refine k _ tk (S'.mut ha hL h1 hp' hsb (hR.and Own.stb) ⟨hR' _ _ (fun b o hb e => hsb.extBut b o hb e) hr, vs ++ ws, m', by simpa using hp', ?_⟩)
    exact RdAll.append (h2.sq (q fun _ f => f.elim)) (RdAll.sq (q fun _ f => f.elim) (RdAll.flat hf rb))

/-- pop the last item: the call -/
theorem pop_call {x : Str} {p ap cp : Pos} {d : PyData} {Q : Value → Shared → Prop} (S : St c env X h₀ g s.heap γ fx (fun h => R h ∧ Own a (ds ++ [d]) h)) (hm : (x, .ref a) ∈ fx) (ha : a ∈ X) (hL : a ≠ env.locals) (hn : ds.length ≤ 1000)
    (k : ∀ v h', Rd h' (fun _ => False) v d → St c env X h₀ g h' γ fx (fun h => R h ∧ Own a ds h) → Q v { s with heap := h' })
    (hR : Stb R) (hR' : ∀ h h', (∀ b o, b ≠ a → h.get? b = some o → h'.get? b = some o) → R h → R h')
    (hbase : attributeBase (.Name x p) (Str.ofString "pop") env (eval (.Name x p) env) = eval (.Name x p) env := by rfl) (hline : (ap.endLine == cp.line) = true := by rfl) (hd : (x == ("__debug__" : Str)) = false := by decide) :
    wpAny (model c.prog c.w) A (eval (.Call (.Attribute (.Name x p) (Str.ofString "pop") ap) [] [] cp) env) Q F0 s := by
  refine own_meth0 S hm F.slot_list_pop F.type_list_pop ?_ hbase hline hd
  obtain ⟨hr, vs, m, h1, h2⟩ := S.res
  have hln := h2.length
  obtain ⟨ws, v, rfl, h3, h4⟩ : ∃ ws v, vs = ws ++ [v] ∧ RdAll s.heap (fun _ => False) ws ds ∧ Rd s.heap (fun _ => False) v d := by
    have hne : vs ≠ [] := fun e => by subst e; simp at hln
    refine ⟨vs.dropLast, vs.getLast hne, (List.dropLast_concat_getLast hne).symm, ?_, ?_⟩
    · have := h2.take ds.length
      rw [List.take_left'] at this
      · rwa [List.dropLast_eq_take, show vs.length - 1 = ds.length by rw [hln]; simp]
      · rfl
    · obtain ⟨v, e1, e2⟩ := h2.get (k := ds.length) (d := d) (by simp)
      have : vs.getLast hne = v := by
        rw [List.getLast_eq_getElem]
        have hq := (List.getElem?_eq_some_iff.mp e1)
        obtain ⟨hlt, hq⟩ := hq
        rw [← hq]
        congr 1
        rw [hln]; simp
      rw [this]; exact e2
  have hws : ws.length = ds.length := h3.length
  refine call_meets F.slot_list_pop ⟨_, h1, rfl⟩ F.entry_list_pop (F.args_list_pop_1 _) (MeetsSeq.list_pop_last a (ws ++ [v]).toArray m v (by simp) (by rw [List.size_toArray, List.length_append, hws, sizeLine_eq]; simp; omega)) ⟨h1, ?_⟩
  have hsb : Heap.SameBut a s.heap (s.heap.update a (Obj.mapSeq fun xs => xs.eraseIdxIfInBounds ((ws ++ [v]).toArray.size - 1))) := Heap.SameBut.update ..
  obtain ⟨m', hp'⟩ := mapSeq_get (f := fun xs => xs.eraseIdxIfInBounds ((ws ++ [v]).toArray.size - 1)) h1
  have e : (ws ++ [v]).toArray.eraseIdxIfInBounds ((ws ++ [v]).toArray.size - 1) = ws.toArray := by
    simp [List.eraseIdx_append_of_length_le]
  rw [e] at hp'
  have q : Sq (fun _ => False) (fun _ => False) s.heap (s.heap.update a (Obj.mapSeq fun xs => xs.eraseIdxIfInBounds ((ws ++ [v]).toArray.size - 1))) := ⟨fun _ _ _ _ f => f.elim, fun b o vs n e hc _ => hsb.extBut b o (fun w => by subst w; rw [h1] at e; cases e; exact absurd hc lt_ne) e⟩
  exact k v _ (h4.sq q) (S.mut ha hL h1 hp' hsb (hR.and Own.stb) ⟨hR' _ _ (fun b o hb e => hsb.extBut b o hb e) hr, ws, m', hp', h3.sq q⟩)

/-- insert at the front -/
theorem St.insert0 {x : Str} {p ap cp pos ip : Pos} {ik : Nat} {arg : Expr} {d : PyData} {P : Addr → Prop} {Q : Flow → Shared → Prop} (S : St c env X h₀ g s.heap γ fx (fun h => R h ∧ Own a ds h)) (hm : (x, .ref a) ∈ fx) (ha : a ∈ X) (hL : a ≠ env.locals)
    (he : ∀ tk, EvAt c A { s with toks := tk } env P arg d) (hf : flat d = true) (hn : ds.length ≤ 1000)
    (k : ∀ h' tk, St c env X h₀ g h' γ fx (fun h => R h ∧ Own a (d :: ds) h) → Q .next { s with heap := h', toks := tk })
    (hR : Stb R) (hR' : ∀ h h', (∀ b o, b ≠ a → h.get? b = some o → h'.get? b = some o) → R h → R h')
    (hbase : attributeBase (.Name x p) (Str.ofString "insert") env (eval (.Name x p) env) = eval (.Name x p) env := by rfl) (hs : starEach [.Constant (.int 0) ik ip, arg] env = [(false, eval (.Constant (.int 0) ik ip) env), (false, eval arg env)] := by rfl) (hline : (ap.endLine == cp.line) = true := by rfl) (hd : (x == ("__debug__" : Str)) = false := by decide)
    (hi : interactive env = false := by rfl) (hsw : swapsWith (.Call (.Attribute (.Name x p) (Str.ofString "insert") ap) [.Constant (.int 0) ik ip, arg] [] cp) none pos.line env = pure false := by rfl) :
    wpAny (model c.prog c.w) A (exec (.Expr (.Call (.Attribute (.Name x p) (Str.ofString "insert") ap) [.Constant (.int 0) ik ip, arg] [] cp) pos) env) Q F0 s := by
  refine wpAny_Expr (Call_method2 hbase hs hline (wpAny_Name (S.raw hm _ _ _ _ (Kp.refl _) ?_) hd)) hi hsw
  obtain ⟨-, vs, m, h1, h2⟩ := S.res
  refine ⟨"list", "list.insert", F.plainAttrs_list, F.slot_list_insert, F.type_list_insert, ⟨_, h1, rfl⟩, (fun b e => by cases e; exact ⟨_, h1, rfl⟩), Calls.callWith_builtin rfl (Calls.evalArgs_plain (Calls.spliced_cons (wpAny_Constant_int (Calls.spliced_cons (he _ _ fun v h' tk k₁ r => Calls.spliced_nil ?_)))))⟩
  have S' := S.kp k₁
  obtain ⟨hr, vs, m, h1, h2⟩ := S'.res
  have hln := h2.length
  refine call_meets F.slot_list_insert (s := { s with heap := h', toks := tk }) ⟨_, h1, rfl⟩ F.entry_list_insert (F.args_list_insert_3 _ _ _) (AutoSeq1.list_insert_list_int_val_1 a vs.toArray m 0 _ v (by decide) (by rw [List.size_toArray, hln, sizeLine_eq]; omega)) ⟨h1, ?_⟩
  have hsb : Heap.SameBut a h' (h'.update a (Obj.mapSeq fun xs => have k := if (0 : Int) < 0 then ((0 : Int) + (xs.size : Int)).toNat else min (0 : Int).toNat xs.size; (xs.extract 0 k).push v ++ xs.extract k)) := Heap.SameBut.update ..
  obtain ⟨m', hp'⟩ := mapSeq_get (f := fun xs => have k := if (0 : Int) < 0 then ((0 : Int) + (xs.size : Int)).toNat else min (0 : Int).toNat xs.size; (xs.extract 0 k).push v ++ xs.extract k) h1
  have e : (have k := if (0 : Int) < 0 then ((0 : Int) + (vs.toArray.size : Int)).toNat else min (0 : Int).toNat vs.toArray.size; (vs.toArray.extract 0 k).push v ++ vs.toArray.extract k) = (v :: vs).toArray := by
    simp
  rw [e] at hp'
  have q : Sq (fun _ => False) (fun _ => False) h' (h'.update a (Obj.mapSeq fun xs => have k := if (0 : Int) < 0 then ((0 : Int) + (xs.size : Int)).toNat else min (0 : Int).toNat xs.size; (xs.extract 0 k).push v ++ xs.extract k)) := ⟨fun _ _ _ _ f => f.elim, fun b o vs n e hc _ => hsb.extBut b o (fun w => by subst w; rw [h1] at e; cases e; exact absurd hc lt_ne) e⟩
  refine k _ tk (S'.mut ha hL h1 hp' hsb (hR.and Own.stb) ⟨hR' _ _ (fun b o hb e => hsb.extBut b o hb e) hr, v :: vs, m', hp', .cons ((r.flat hf).sq q) (h2.sq q)⟩)

/-! a for over a list -/
theorem go_listiter {target : Expr} {v : Value} {I l : Addr} {i : Nat} {Q : Unit → Shared → Prop} {E : Value → Shared → Prop} (hit : s.heap.IsListIter I l i) (hQ : Q () s) :
    wpAny (model c.prog c.w) A (letOwnedTupleGo target (.ref I) v) Q E s := by
  obtain ⟨o, ho, hc, hd⟩ := hit
  have key : ∀ T : Addr, wpAny (model c.prog c.w) A (do
      let o ← load I
      match o.cls, o.data with
      | .type n, .fields vs =>
        if ["enumerate", "zip", "dict_itemiterator", "dict_reverseitemiterator", "odict_iterator", "itertools.zip_longest", "itertools.pairwise"].contains n && vs[0]? == some (rawInt T) then
          rule "for.unpacks-the-owned-tuple"
          updateField I 0 .none
      | _, _ => pure ()) Q E s := fun T => by
    refine wpAny_bind (wpAny_load ho ?_)
    rw [hc, hd]
    show wpAny _ A (if (["enumerate", "zip", "dict_itemiterator", "dict_reverseitemiterator", "odict_iterator", "itertools.zip_longest", "itertools.pairwise"].contains "list_iterator" && _) = true then _ else _) Q E s
    rw [if_neg (by
      intro h
      rw [show (["enumerate", "zip", "dict_itemiterator", "dict_reverseitemiterator", "odict_iterator", "itertools.zip_longest", "itertools.pairwise"].contains "list_iterator") = false from by decide, Bool.false_and] at h
      cases h)]
    exact wpAny_pure hQ
  cases target <;> first
    | exact wpAny_pure hQ
    | (cases v <;> first
        | exact wpAny_pure hQ
        | exact key _)

theorem St.iterD {It : Addr} {o : Obj} (S : St c env X h₀ g h γ fx R) (hs : ∀ b o, b ≠ It → h.get? b = some o → h'.get? b = some o) (hI : h.get? It = some o) (hd : (∀ vs n, o.data ≠ .seq vs n) ∧ ∀ v, o.data ≠ .cell v) (h0 : h₀.get? It = none) (hg : g.get? It = none) (hX : It ∉ X) :
    St c env X h₀ g h' γ fx R := by
  have sk : Sk h h' := sk_but hs fun o' e => by rw [hI] at e; cases e; exact hd
  have nX : ∀ b, b ∈ X → b ≠ It := fun b hb w => hX (w ▸ hb)
  refine { S with k0 := fun b o e => hs b o (fun w => by subst w; rw [h0] at e; cases e) (S.k0 b o e), ns := ?_, xd := fun b hb => let ⟨o, h1, h2⟩ := S.xd b hb; ⟨o, hs b o (nX b hb) h1, h2⟩, keep := fun b o hb e => hs b o (fun w => by subst w; rw [hg] at e; cases e) (S.keep b o hb e), res := S.stb _ _ sk S.res }
  obtain ⟨m, h1, h2, h3⟩ := S.ns
  exact ⟨m, h1.at' fun o e => hs _ o (nX _ S.hL) e, fun x d e => ⟨(h2 x d e).1, let ⟨v, q1, q2⟩ := (h2 x d e).2; ⟨v, q1, q2.sq sk.sq⟩⟩, h3⟩
theorem St.iter {It : Addr} {o : Obj} {fs : Array Value} (S : St c env X h₀ g h γ fx R) (hs : ∀ b o, b ≠ It → h.get? b = some o → h'.get? b = some o) (hI : h.get? It = some o) (hd : o.data = .fields fs) (h0 : h₀.get? It = none) (hg : g.get? It = none) (hX : It ∉ X) :
    St c env X h₀ g h' γ fx R := S.iterD hs hI (by rw [hd]; exact ⟨(fun _ _ q => nomatch q), (fun _ q => nomatch q)⟩) h0 hg hX
/-- what a turn has kept -/
theorem St.carry {γ' : List (Str × PyData)} {fx' : List (Str × Value)} (S : St c env X h₀ g h γ fx R) (S' : St c env X h₀ h h' γ' fx' R') : Sq (fun b => b ∉ X) (fun b => b ∉ X) h h' :=
  ⟨fun b o _ _ hb e _ _ => ⟨S'.keep b o hb e, hb⟩, fun b o vs n e hc hd => S'.keep b o (fun w => by obtain ⟨o', h1, h2⟩ := S.xd b w; rw [h1] at e; cases e; exact h2 hc _ _ hd) e⟩

/-- what a turn must end in -/
noncomputable abbrev TurnP (c : Cfg) (env : Env) (X : List Addr) (h₀ : Heap) (fx : List (Str × Value)) (s : Shared) (h : Heap) (γ : List (Str × PyData)) (R : Heap → Prop) (Q : Flow → Shared → Prop) : Flow → Shared → Prop := fun f s₃ => match f with
  | .next | .cont => ∃ h' tk', s₃ = { s with heap := h', toks := tk' } ∧ St c env X h₀ h h' γ fx R
  | .brk => False
  | .ret v => Q (.ret v) s₃
theorem St.forL {γ : Nat → List (Str × PyData)} {R : Nat → Heap → Prop} {target iter : Expr} {body : List Stmt} {pos : Pos} {Q : Flow → Shared → Prop} (S : St c env X h₀ g s.heap (γ 0) fx (R 0)) (hA : AOk n A)
    (he : EvAt c A s env (fun b => b ∉ X) iter (.list ds))
    (turn : ∀ i d h tk v, ds[i]? = some d → St c env X h₀ h h (γ i) fx (R i) → Rd h (fun b => b ∉ X) v d →
      wpAny (model c.prog c.w) A (PySem.assign target env v) (fun _ s₂ => wpAny (model c.prog c.w) A (execs body env) (TurnP c env X h₀ fx s h (γ (i + 1)) (R (i + 1)) Q) F0 s₂) F0 { s with heap := h, toks := tk })
    (k : ∀ h' tk, St c env X h₀ g h' (γ ds.length) fx (R ds.length) → Q .next { s with heap := h', toks := tk })
    (hs : ∀ x, foldedSetIterable iter env x = pure x := by intro _; rfl) :
    wpAny (model c.prog c.w) A (exec (.For target iter body [] pos) env) Q F0 s := by
  refine wpAny_For (he _ fun v h₁ t₁ k₁ r => ?_) hs
  obtain ⟨ax, vs, rfl, hax, hl, ra⟩ := r.of_list
  refine wpAny_pyIter_list (s := { s with heap := h₁, toks := t₁ }) hl ?_
  have S₁ := S.kp k₁
  have nn := new_none h₁
  have hX : h₁.objs.size ∉ X := fun w => by obtain ⟨o, q1, _⟩ := S₁.xd _ w; rw [nn] at q1; cases q1
  have h0 : h₀.get? h₁.objs.size = none := by
    cases e : h₀.get? h₁.objs.size with
    | none => rfl
    | some o => rw [S₁.k0 _ _ e] at nn; cases nn
  have hg : g.get? h₁.objs.size = none := by
    cases e : g.get? h₁.objs.size with
    | none => rfl
    | some o => rw [S₁.keep _ _ hX e] at nn; cases nn
  have hne : ax ≠ h₁.objs.size := by obtain ⟨o, ho, _⟩ := hl; exact Nat.ne_of_lt (Heap.lt_size ho)
  have hlen := ra.length
  generalize hIt : h₁.objs.size = It at *
  refine codeAny_forLoop_any (fun k s' => ∃ h tk i, s' = { s with heap := h, toks := tk } ∧ k = ds.length + 1 - i ∧ i ≤ ds.length ∧ h.IsListIter It ax i ∧ h.IsList ax vs.toArray ∧ RdAll h (fun b => b ∉ X) vs ds ∧ St c env X h₀ g h (γ i) fx (R i)) ?_ (ds.length + 1) ?_
  · rintro kk s' ⟨h, tk, i, rfl, rfl, hi, hit, hl', ra', S'⟩
    obtain ⟨oI, hoI, hcI, hdI⟩ := id hit
    cases hv : vs.toArray[i]? with
    | none =>
      have hsz : i = ds.length := Nat.le_antisymm hi (by rw [← hlen]; simpa using hv)
      refine wpAny_pyNext_list_end (s := { s with heap := h, toks := tk }) hA.h hit hl' hv fun h₂ he₂ => wpAny_execs_nil ?_
      subst hsz
      exact k h₂ tk (S'.iter he₂ hoI hdI h0 hg hX)
    | some v =>
      have hv' : vs[i]? = some v := by simpa using hv
      obtain ⟨d, hd, rv⟩ := ra'.get' hv'
      have hlt : i < ds.length := (List.getElem?_eq_some_iff.mp hd).1
      refine wpAny_pyNext_list_item (s := { s with heap := h, toks := tk }) hit hl' hv fun h₂ hit₂ hs₂ => ?_
      have S₂ := S'.iter (fun b o hb e => hs₂.extBut b o hb e) hoI hdI h0 hg hX
      have sk : Sk h h₂ := sk_but (fun b o hb e => hs₂.extBut b o hb e) fun o' e => by rw [hoI] at e; cases e; rw [hdI]; exact ⟨(fun _ _ q => nomatch q), (fun _ q => nomatch q)⟩
      refine go_listiter (s := { s with heap := h₂, toks := tk }) hit₂ ?_
      refine wpAny_mono (turn i d h₂ tk v hd S₂.rebase (rv.sq sk.sq)) (fun _ s₃ h₃ => wpAny_mono h₃ (fun f s₄ h₄ => ?_) fun _ _ f => f.elim) fun _ _ f => f.elim
      have fin : (∃ h' tk', s₄ = { s with heap := h', toks := tk' } ∧ St c env X h₀ h₂ h' (γ (i + 1)) fx (R (i + 1))) → ∃ m, m < ds.length + 1 - i ∧ ∃ h tk i, s₄ = { s with heap := h, toks := tk } ∧ m = ds.length + 1 - i ∧ i ≤ ds.length ∧ h.IsListIter It ax i ∧ h.IsList ax vs.toArray ∧ RdAll h (fun b => b ∉ X) vs ds ∧ St c env X h₀ g h (γ i) fx (R i) := by
        rintro ⟨h', tk', rfl, S₃⟩
        have q := S₂.rebase.carry S₃
        refine ⟨ds.length + 1 - (i + 1), by omega, h', tk', i + 1, rfl, rfl, hlt, ?_, ?_, (ra'.sq sk.sq).sq q, S₂.back S₃⟩
        · obtain ⟨o, q1, q2⟩ := hit₂; exact ⟨o, S₃.keep _ _ hX q1, q2⟩
        · obtain ⟨o, q1, q2⟩ := hl'.extBut hs₂.extBut hne; exact ⟨o, S₃.keep _ _ hax q1, q2⟩
      cases f with
      | next => exact fin h₄
      | cont => exact fin h₄
      | brk => exact h₄.elim
      | ret v => exact h₄
  · refine ⟨h₁.push { cls := .type "list_iterator", data := .fields #[.ref ax, .int 0 0] }, t₁, 0, rfl, rfl, Nat.zero_le _, ⟨_, hIt ▸ Heap.get?_push_size _ rfl, rfl, rfl⟩, hl.push _, ra.kp (Kp.push _ _), S₁.kp (Kp.push _ _)⟩
/-- a list of the def's own, read -/
theorem St.cxO {x : Str} (S : St c env X h₀ g h γ fx (fun h => R h ∧ Own a ds h)) (hm : (x, .ref a) ∈ fx) : Cx c env (fun _ => True) h ((x, .list ds) :: γ) where
  gl := S.gl.kp S.k0
  fr := fun _ _ => trivial
  gv := S.gv
  bv := S.bv
  kd := S.kd
  vars := fun y d e => by
    simp only [List.lookup_cons] at e
    split at e
    · rename_i hq
      have hy : y = x := by simpa using hq
      subst hy; cases e
      exact ⟨.ref a, S.raw hm, S.res.2.rd trivial⟩
    · obtain ⟨m, h1, h2, _⟩ := S.ns
      obtain ⟨q1, v, q2, q3⟩ := h2 y d e
      exact ⟨v, Var.local S.kd q1 h1 q2, q3.weak fun _ _ => trivial⟩
theorem St.evO {x : Str} {e : Expr} {d : PyData} (S : St c env X h₀ g s.heap γ fx (fun h => R h ∧ Own a ds h)) (hm : (x, .ref a) ∈ fx) (hA : AOk n A) (he : Ev c n env ((x, .list ds) :: γ) e d) : EvAt c A s env (fun _ => True) e d := fun Q q => he A s _ Q hA (S.cxO hm) q
theorem St.iteO {x : Str} {pos : Pos} {test : Expr} {body orelse : List Stmt} {b : Bool} {Q : Flow → Shared → Prop} (S : St c env X h₀ g s.heap γ fx (fun h => R h ∧ Own a ds h)) (hm : (x, .ref a) ∈ fx) (hA : AOk n A) (ht : Tr c n env ((x, .list ds) :: γ) test b)
    (k : ∀ h' tk, St c env X h₀ g h' γ fx (fun h => R h ∧ Own a ds h) → wpAny (model c.prog c.w) A (execs (if b then body else orelse) env) Q F0 { s with heap := h', toks := tk }) : wpAny (model c.prog c.w) A (exec (.If test body orelse pos) env) Q F0 s :=
  wpAny_If (ht A s _ _ hA (S.cxO hm) fun h' tk k₁ => by
    cases b
    · exact k h' tk (S.kp k₁)
    · exact k h' tk (S.kp k₁))
end
end Mine
end

section
namespace Mine
open PySem PySem.Calls PyProof.Rows

/-- a datum without an object -/
noncomputable def imm : PyData → Bool
  | .none | .bool _ | .int _ | .str _ => true
  | .tuple _ | .list _ | .dict _ => false
theorem Rd.imm {P P' : Addr → Prop} {h h' : Heap} {v : Value} {d : PyData} (hi : Mine.imm d = true) (r : Rd h P v d) : Rd h' P' v d := by
  cases r with
  | none => exact .none
  | bool b => exact .bool b
  | int i t => exact .int i t
  | str x t => exact .str x t
  | list _ _ _ => cases hi
  | tuple _ _ _ _ => cases hi

section
variable {c : Cfg} {n : Nat} {env : Env} {A : Around} {s : Shared} {R : Result → Shared → Prop}

noncomputable abbrev ifsT (ifs : List Expr) (cenv : Env) : Sem Bool := forIn ifs true fun t r => if r = true then do let ok ← isTrue t cenv (eval t cenv); pure (ForInStep.yield ok) else pure (ForInStep.yield r)

theorem comp_loop {elt target iter : Expr} {ifs : List Expr} {scope : Scope} {pos : Pos} {It D : Addr} {cenv : Env} {fp wr : List Addr} {N : Nat} {Pw : Nat → Value → Prop} {Sw : Nat → Heap → Prop} {B : Heap} {m : Str → Option Value}
    (W : Walks c.prog c.w A It fp wr N Pw Sw) (out : Nat → Option PyData) (hDC : D ≠ cenv.locals) (hDf : D ∉ fp) (hCf : cenv.locals ∉ fp)
    (hBw : ∀ b ∈ wr, B.get? b = none) (hBD : B.get? D = none) (hBC : B.get? cenv.locals = none)
    (go : ∀ i v (s : Shared) (E : Value → Shared → Prop) (Q : Unit → Shared → Prop), Sw (i + 1) s.heap → Q () s → wpAny (model c.prog c.w) A (letOwnedTupleGo target (.ref It) v) Q E s)
    (turn : ∀ i v (s₂ : Shared) m, i < N → Pw i v → Kp B s₂.heap → s₂.heap.Ns cenv.locals m →
      wpAny (model c.prog c.w) A (PySem.assign target cenv v) (fun _ s₃ => ∃ h₃ tk₃ m₃, s₃ = { s₂ with heap := h₃, toks := tk₃ } ∧ h₃.Ns cenv.locals m₃ ∧ (∀ b o, b ≠ cenv.locals → s₂.heap.get? b = some o → h₃.get? b = some o) ∧
        wpAny (model c.prog c.w) A (ifsT ifs cenv) (fun ok s₄ => ∃ h₄ tk₄, s₄ = { s₂ with heap := h₄, toks := tk₄ } ∧ Kp h₃ h₄ ∧ match out i with
          | none => ok = false
          | some d => ok = true ∧ wpAny (model c.prog c.w) A (eval elt cenv) (fun y s₅ => ∃ h₅ tk₅, s₅ = { s₂ with heap := h₅, toks := tk₅ } ∧ Kp h₄ h₅ ∧ ∀ h P, Rd h P y d) F0 s₄) F0 s₃) F0 s₂)
    (hst : Sw 0 s.heap) (hacc : s.heap.PlainList D #[]) (hn : s.heap.Ns cenv.locals m) (hk : Kp B s.heap) (hsz : N ≤ 1000)
    (hR : ∀ h' tk m' vs k, h'.Ns cenv.locals m' → h'.get? D = some { cls := .type "list", data := .seq (List.toArray vs) k } → (∀ h P, RdAll h P vs ((List.range N).filterMap out)) → Kp B h' → R (.ok .next) { s with heap := h', toks := tk }) :
    codeAny (model c.prog c.w) A (.compLoop (.ListComp elt [⟨target, iter, ifs, 0⟩] scope pos) 0 (.ref It) (.ref D) cenv) R s := by
  have hCw : cenv.locals ∉ wr := fun h => hCf (W.sub _ h)
  have hDw : D ∉ wr := fun h => hDf (W.sub _ h)
  refine codeAny_loop rfl (fun k s' => ∃ h tk m' i vs, s' = { s with heap := h, toks := tk } ∧ k = N + 1 - i ∧ i ≤ N ∧ Sw i h ∧ h.PlainList D (List.toArray vs) ∧ h.Ns cenv.locals m' ∧ (∀ h P, RdAll h P vs ((List.range i).filterMap out)) ∧ Kp B h) ?_ (N + 1)
    ⟨s.heap, s.toks, m, 0, [], rfl, rfl, Nat.zero_le _, hst, hacc, hn, fun _ _ => .nil, hk⟩
  rintro k s' ⟨h, tk, m', i, vs, rfl, rfl, hi, hst', hacc', hn', hvs, hk'⟩
  show wpAny _ A ((compTurn (.ListComp elt [⟨target, iter, ifs, 0⟩] scope pos) 0 (.ref It) (.ref D) cenv).onRaise (fun x => do noteFrame x cenv; theTreesLotGoes x)) _ _ _
  refine wpAny_noted ?_
  rw [compTurn_list]
  refine wpAny_bind (wpAny_standAt (wpAny_bind ?_))
  by_cases hlt : i < N
  · refine W.item i _ _ _ hlt hst' fun v h₁ tk₁ hPv hst₁ hk₁ => ?_
    have kB1 : Kp B h₁ := fun b o e => hk₁ b o (fun w => by rw [hBw b w] at e; cases e) (hk' b o e)
    refine wpAny_bind (go i v { s with heap := h₁, toks := tk₁ } _ _ hst₁ ?_)
    refine wpAny_bind (wpAny_mono (turn i v { s with heap := h₁, toks := tk₁ } m' hlt hPv kB1 (hn'.at' fun o e => hk₁ _ o hCw e)) (fun _ s₃ h₃ => ?_) fun _ _ f => f.elim)
    obtain ⟨h₃, tk₃, m₃, rfl, hn₃, hk₃, ht⟩ := h₃
    have kB3 : Kp B h₃ := fun b o e => hk₃ b o (fun w => by subst w; rw [hBC] at e; cases e) (kB1 b o e)
    have hst₃ : Sw (i + 1) h₃ := W.frame _ _ _ hst₁ fun b hb o e => hk₃ b o (fun w => hCf (w ▸ hb)) e
    have hacc₃ : h₃.PlainList D (List.toArray vs) := (hacc'.at fun o e => hk₁ _ o hDw e).at fun o e => hk₃ _ o hDC e
    refine wpAny_bind (wpAny_mono ht (fun ok s₄ h₄ => ?_) fun _ _ f => f.elim)
    obtain ⟨h₄, tk₄, rfl, hk₄, hm⟩ := h₄
    have hst₄ : Sw (i + 1) h₄ := W.frame _ _ _ hst₃ fun b hb o e => hk₄ b o e
    have rs : (List.range (i + 1)).filterMap out = (List.range i).filterMap out ++ (out i).toList := by
      rw [List.range_succ, List.filterMap_append]
      cases ho : out i <;> simp [ho]
    cases ho : out i with
    | none =>
      rw [ho] at hm
      simp only at hm
      subst hm
      simp only [Bool.false_eq_true, if_false]
      refine wpAny_pure ⟨rfl, N + 1 - (i + 1), by omega, h₄, tk₄, _, i + 1, vs, rfl, rfl, hlt, hst₄, hacc₃.at fun o e => hk₄ _ o e, hn₃.keeps hk₄, fun h P => ?_, kB3.trans hk₄⟩
      rw [rs, ho]; simpa using hvs h P
    | some d =>
      rw [ho] at hm
      obtain ⟨rfl, hel⟩ := hm
      simp only [if_true]
      refine wpAny_bind (wpAny_bind (wpAny_mono hel (fun y s₅ h₅ => ?_) fun _ _ f => f.elim))
      obtain ⟨h₅, tk₅, rfl, hk₅, hy⟩ := h₅
      have hlen : vs.length ≤ i := by
        have e1 := (hvs {} fun _ => True).length
        rw [e1]
        exact Nat.le_trans (List.length_filterMap_le _ _) (by simp)
      refine wpAny_bind (wpAny_list_append_plain (s := { s with heap := h₅, toks := tk₅ }) ((hacc₃.at fun o e => hk₄ _ o e).at fun o e => hk₅ _ o e) (fun h₆ hl₆ hs₆ => wpAny_pure (wpAny_pure ?_)) (by rw [List.size_toArray, sizeLine_eq]; omega))
      refine ⟨rfl, N + 1 - (i + 1), by omega, h₆, tk₅, _, i + 1, vs ++ [y], rfl, rfl, hlt, ?_, by simpa using hl₆, ((hn₃.keeps hk₄).keeps hk₅).sameBut hs₆ (Ne.symm hDC), fun h P => ?_, fun b o e => hs₆.extBut b o (fun w => by subst w; rw [hBD] at e; cases e) (hk₅ b o (hk₄ b o (kB3 b o e)))⟩
      · exact W.frame _ _ h₆ hst₄ fun b hb o e => hs₆.extBut b o (fun w => hDf (w ▸ hb)) (hk₅ b o e)
      · rw [rs, ho]; exact RdAll.append (hvs h P) (.one (hy h P))
  · have hin : i = N := by omega
    subst hin
    refine W.done _ _ _ hst' fun h₁ tk₁ hk₁ => wpAny_pure ?_
    obtain ⟨kk, hD'⟩ := hacc'
    exact hR h₁ tk₁ m' vs kk (hn'.at' fun o e => hk₁ _ o hCw e) (hk₁ _ _ hDw hD') hvs fun b o e => hk₁ b o (fun w => by rw [hBw b w] at e; cases e) (hk' b o e)

/-- a source of items: what iterating it gives -/
noncomputable def Src (c : Cfg) (A : Around) (s₁ : Shared) (xv : Value) (target : Expr) (N : Nat) (Pw : Nat → Value → Prop) : Prop :=
  ∀ Q : Value → Shared → Prop, (∀ It fp wr Sw h₂, Walks c.prog c.w A It fp wr N Pw Sw → Sw 0 h₂ → (∀ b ∈ fp, b < h₂.objs.size) → (∀ b ∈ wr, s₁.heap.get? b = none) → Kp s₁.heap h₂ →
    (∀ i v (s : Shared) (E : Value → Shared → Prop) (Q' : Unit → Shared → Prop), Sw (i + 1) s.heap → Q' () s → wpAny (model c.prog c.w) A (letOwnedTupleGo target (.ref It) v) Q' E s) → Q (.ref It) { s₁ with heap := h₂ }) →
    wpAny (model c.prog c.w) A (pyIter xv) Q F0 s₁

theorem comp_core {elt target iter : Expr} {ifs : List Expr} {scope : Scope} {pos : Pos} {cl : List (Str × Addr)} {s₁ : Shared} {xv : Value} {N : Nat} {Pw : Nat → Value → Prop} {RR : Value → Addr → Result → Shared → Prop}
    (hsrc : Src c A s₁ xv target N Pw) (out : Nat → Option PyData) (hcell : ∀ y ∈ scope.names, y.2 ≠ .cell) (hkind : scope.kind = .function) (hsz : N ≤ 1000)
    (turn : ∀ C i v (s₂ : Shared) m, s₁.heap.get? C = none → i < N → Pw i v → Kp s₁.heap s₂.heap → s₂.heap.Ns C m →
      wpAny (model c.prog c.w) A (PySem.assign target (compEnvC scope cl C env) v) (fun _ s₃ => ∃ h₃ tk₃ m₃, s₃ = { s₂ with heap := h₃, toks := tk₃ } ∧ h₃.Ns C m₃ ∧ (∀ b o, b ≠ C → s₂.heap.get? b = some o → h₃.get? b = some o) ∧
        wpAny (model c.prog c.w) A (ifsT ifs (compEnvC scope cl C env)) (fun ok s₄ => ∃ h₄ tk₄, s₄ = { s₂ with heap := h₄, toks := tk₄ } ∧ Kp h₃ h₄ ∧ match out i with
          | none => ok = false
          | some d => ok = true ∧ wpAny (model c.prog c.w) A (eval elt (compEnvC scope cl C env)) (fun y s₅ => ∃ h₅ tk₅, s₅ = { s₂ with heap := h₅, toks := tk₅ } ∧ Kp h₄ h₅ ∧ ∀ h P, Rd h P y d) F0 s₄) F0 s₃) F0 s₂)
    (hRR : ∀ D C h' tk m vs k, s₁.heap.get? D = none → s₁.heap.get? C = none → D ≠ C → h'.Ns C m → h'.get? D = some { cls := .type "list", data := .seq (List.toArray vs) k } → (∀ h P, RdAll h P vs ((List.range N).filterMap out)) → Kp s₁.heap h' → RR (.ref D) C (.ok .next) { s₁ with heap := h', toks := tk }) :
    wpAny (model c.prog c.w) A (pyIter xv) (fun it s₂ => wpAny (model c.prog c.w) A (newList []) (fun acc s₃ => wpAny (model c.prog c.w) A (newFunctionEnv scope env.globals cl [] env.qual none .none (some env)) (fun cenv s₄ =>
      codeAny (model c.prog c.w) A (.compStart (.ListComp elt [⟨target, iter, ifs, 0⟩] scope pos) 0 it acc { cenv with scope := relabel scope env }) (RR acc cenv.locals) s₄) F0 s₃) F0 s₂) F0 s₁ := by
  refine hsrc _ fun It fp wr Sw h₂ W hst hfp hwr hk₂ go => ?_
  refine wpAny_newObj_type (wpAny_newFunctionEnv hcell (by intro y hy; simp at hy) (fun h₁ hns₁ hsb₁ => ?_) hkind)
  dsimp only at hns₁ hsb₁ ⊢
  generalize hH2 : h₂.push { cls := .type "list", dict := none, data := .seq ([] : List Value).toArray } = H2 at hns₁ hsb₁ ⊢
  have hC : H2.objs.size = h₂.objs.size + 1 := by rw [← hH2, Heap.size_push]
  have hDC : h₂.objs.size ≠ H2.objs.size := by rw [hC]; exact Nat.ne_of_lt (Nat.lt_succ_self _)
  have below : ∀ b, b < h₂.objs.size → b ≠ H2.objs.size ∧ b ≠ h₂.objs.size := fun b hb => ⟨by rw [hC]; exact Nat.ne_of_lt (Nat.lt_succ_of_lt hb), Nat.ne_of_lt hb⟩
  have hDf : h₂.objs.size ∉ fp := fun hm => Nat.lt_irrefl _ (hfp _ hm)
  have hCf : H2.objs.size ∉ fp := fun hm => by have := hfp _ hm; rw [hC] at this; exact Nat.lt_irrefl _ (Nat.lt_of_succ_lt this)
  have old : ∀ b o, h₂.get? b = some o → h₁.get? b = some o := fun b o e => hsb₁.extBut b o (below b (Heap.lt_size e)).1 (Heap.get?_push_of_some _ (hH2 ▸ Heap.get?_push_of_some _ e))
  have hacc : h₁.PlainList h₂.objs.size #[] := ⟨_, hsb₁.extBut _ _ hDC (Heap.get?_push_of_some _ (hH2 ▸ Heap.get?_push_size _ rfl))⟩
  have hst₁ : Sw 0 h₁ := W.frame _ _ _ hst fun b _ o e => old b o e
  have fresh : ∀ a, h₂.objs.size ≤ a → s₁.heap.get? a = none := fun a ha => by
    cases e : s₁.heap.get? a with
    | none => rfl
    | some o' => exact absurd (Heap.lt_size (hk₂ _ _ e)) (Nat.not_lt.mpr ha)
  have fD := fresh _ (Nat.le_refl _)
  have fC := fresh H2.objs.size (by rw [hC]; exact Nat.le_succ _)
  have loop : ∀ s₃ : Shared, s₃ = { s₁ with heap := h₁, toks := s₁.toks + ([] : List (Str × Value)).length } →
      codeAny (model c.prog c.w) A (.compLoop (.ListComp elt [⟨target, iter, ifs, 0⟩] scope pos) 0 (.ref It) (.ref h₂.objs.size) (compEnvC scope cl H2.objs.size env))
        (RR (.ref h₂.objs.size) H2.objs.size) s₃ := by
    rintro s₃ rfl
    refine comp_loop (cenv := compEnvC scope cl H2.objs.size env) (B := s₁.heap) W out hDC hDf hCf hwr fD fC go (fun i v s₂ m hi hP hk hn => turn _ i v s₂ m fC hi hP hk hn) hst₁ hacc hns₁ (fun b o e => old b o (hk₂ b o e)) hsz ?_
    intro h' tk m' vs k hn hD hvs hk
    exact hRR _ _ h' tk m' vs k fD fC hDC hn hD hvs hk
  exact codeAny_compStart_list (loop _ rfl) (W.self 0 _ _ _ hst₁ (loop _ rfl))

/-! sources -/
theorem Src.list {s₁ : Shared} {ax : Addr} {vs : List Value} {target : Expr} (hA : AOk n A) (hl : s₁.heap.IsList ax vs.toArray) : Src c A s₁ (.ref ax) target vs.length (fun i v => vs[i]? = some v) := by
  intro Q q
  have hne : ax ≠ s₁.heap.objs.size := by obtain ⟨o, ho, _⟩ := hl; exact Nat.ne_of_lt (Heap.lt_size ho)
  refine wpAny_pyIter_list hl ?_
  have W := Walks.list (prog := c.prog) (w := c.w) (A := A) hA.h s₁.heap.objs.size ax hne vs.toArray
  simp only [List.size_toArray, List.getElem?_toArray] at W
  refine q _ _ _ _ _ W ⟨⟨_, Heap.get?_push_size _ rfl, rfl, rfl⟩, hl.push _⟩ ?_ ?_ (Kp.push _ _) ?_
  · intro b hb
    rw [Heap.size_push]
    rcases List.mem_cons.mp hb with rfl | hb
    · exact Nat.lt_succ_self _
    · simp at hb; subst hb; obtain ⟨o, ho, _⟩ := hl; exact Nat.lt_succ_of_lt (Heap.lt_size ho)
  · intro b hb; simp at hb; subst hb; exact new_none _
  · exact fun i v s E Q' hs h' => go_listiter hs.1 h'
theorem go_name {x : Str} {p : Pos} {it v : Value} {E : Value → Shared → Prop} {Q : Unit → Shared → Prop} (h : Q () s) : wpAny (model c.prog c.w) A (letOwnedTupleGo (.Name x p) it v) Q E s := wpAny_pure h
theorem Src.tuple {s₁ : Shared} {ax : Addr} {vs : List Value} {x : Str} {p : Pos} (hA : AOk n A) (hl : IsTup s₁.heap ax vs.toArray) : Src c A s₁ (.ref ax) (.Name x p) vs.length (fun i v => vs[i]? = some v) := by
  intro Q q
  have hne : ax ≠ s₁.heap.objs.size := by obtain ⟨o, ho, _⟩ := hl; exact Nat.ne_of_lt (Heap.lt_size ho)
  refine wpAny_pyIter_tuple (items := vs.toArray) hl ?_
  have W := Walks.tuple (prog := c.prog) (w := c.w) (A := A) hA.h s₁.heap.objs.size ax hne vs.toArray
  simp only [List.size_toArray, List.getElem?_toArray] at W
  refine q _ _ _ _ _ W ⟨⟨_, Heap.get?_push_size _ rfl, rfl, rfl⟩, ?_⟩ ?_ ?_ (Kp.push _ _) fun i v s E Q' hs h' => go_name h'
  · obtain ⟨o, ho, r⟩ := hl; exact ⟨o, Heap.get?_push_of_some _ ho, r⟩
  · intro b hb
    rw [Heap.size_push]
    rcases List.mem_cons.mp hb with rfl | hb
    · exact Nat.lt_succ_self _
    · simp at hb; subst hb; obtain ⟨o, ho, _⟩ := hl; exact Nat.lt_succ_of_lt (Heap.lt_size ho)
  · intro b hb; simp at hb; subst hb; exact new_none _
theorem Src.range {s₁ : Shared} {r : Addr} {N : Nat} {t u v : Tok} {x : Str} {p : Pos} (hA : AOk n A) (hr : IsRange s₁.heap r 0 N 1 t u v) (hN : N ≤ 1000) : Src c A s₁ (.ref r) (.Name x p) N (fun i w => ∃ t, w = .int i t) := by
  intro Q q
  refine wpAny_pyIter_range hr (small_one (by omega) (by omega) (by omega) (by omega)) ?_
  have W := Walks.range (prog := c.prog) (w := c.w) (A := A) hA.h s₁.heap.objs.size 0 1 N
  simp only [Int.mul_one, Int.zero_add] at W
  refine q _ _ _ _ _ W ?_ ?_ ?_ (Kp.push _ _) fun i v s E Q' hs h' => go_name h'
  · show Heap.get? _ _ = _
    rw [Heap.get?_push_size _ rfl, rangeSize_nat]
    simp
  · intro b hb; simp at hb; subst hb; rw [Heap.size_push]; exact Nat.lt_succ_self _
  · intro b hb; simp at hb; subst hb; exact new_none _
end
end Mine
end

section
namespace Mine
open PySem PySem.Calls PyProof.Rows

/-- a list comprehension's run, up to its end -/
noncomputable def Comp (c : Cfg) (A : Around) (s : Shared) (env : Env) (e : Expr) (scope : Scope) (cl : List (Str × Addr)) (first : Sem Value) (outs : List PyData) : Prop :=
  ∀ RR : Value → Addr → Result → Shared → Prop, (∀ D C h' tk m vs k, s.heap.get? D = none → s.heap.get? C = none → D ≠ C → h'.Ns C m → h'.get? D = some { cls := .type "list", data := .seq (List.toArray vs) k } → (∀ h P, RdAll h P vs outs) → Kp s.heap h' → RR (.ref D) C (.ok .next) { s with heap := h', toks := tk }) →
    wpAny (model c.prog c.w) A first (fun x s₁ => wpAny (model c.prog c.w) A (pyIter x) (fun it s₂ => wpAny (model c.prog c.w) A (newList []) (fun acc s₃ => wpAny (model c.prog c.w) A (newFunctionEnv scope env.globals cl [] env.qual none .none (some env)) (fun cenv s₄ =>
      codeAny (model c.prog c.w) A (.compStart e 0 it acc { cenv with scope := relabel scope env }) (RR acc cenv.locals) s₄) F0 s₃) F0 s₂) F0 s₁) F0 s

noncomputable def Tests (c : Cfg) (n : Nat) (cenv : Env) (γ : List (Str × PyData)) (ifs : List Expr) (b : Bool) : Prop := (ifs = [] ∧ b = true) ∨ ∃ t, ifs = [t] ∧ Tr c n cenv γ t b

section
variable {c : Cfg} {n : Nat} {env : Env} {A : Around} {s : Shared} {γ : List (Str × PyData)} {X : List Addr} {h₀ g h h' : Heap} {fx : List (Str × Value)} {R : Heap → Prop}

theorem Tests.run {cenv : Env} {ifs : List Expr} {b : Bool} {P : Addr → Prop} {Q : Bool → Shared → Prop} (ht : Tests c n cenv γ ifs b) (hA : AOk n A) (X : Cx c cenv P s.heap γ) (q : ∀ h' tk, Kp s.heap h' → Q b { s with heap := h', toks := tk }) :
    wpAny (model c.prog c.w) A (ifsT ifs cenv) Q F0 s := by
  rcases ht with ⟨rfl, rfl⟩ | ⟨t, rfl, h⟩
  · exact wpAny_tests_nil (q s.heap s.toks (Kp.refl _))
  · exact wpAny_tests_one (h A s P _ hA X q)

theorem filter_range {ds : List PyData} {f : PyData → Option PyData} : (List.range ds.length).filterMap (fun i => ds[i]?.bind f) = ds.filterMap f := by
  induction ds with
  | nil => rfl
  | cons d ds ih =>
    rw [List.length_cons, List.range_succ_eq_map, List.filterMap_cons, List.filterMap_map]
    have e : (fun i => ((d :: ds)[i]?).bind f) ∘ Nat.succ = fun i => ds[i]?.bind f := by funext i; simp
    rw [e, ih]
    cases h : f d <;> simp [h]

/-- the names that a comprehension draws out of the def -/
noncomputable def Drawn' (c : Cfg) (env : Env) (scope : Scope) (cl : List (Str × Addr)) (h₁ : Heap) (δ : List (Str × PyData)) : Prop :=
  ∀ C h y d, Kp h₁ h → δ.lookup y = some d → ∃ v, Var c (compEnvC scope cl C env) h y v ∧ Rd h (fun _ => True) v d
theorem Drawn'.nil {scope : Scope} {cl : List (Str × Addr)} {h₁ : Heap} : Drawn' c env scope cl h₁ [] := fun _ _ _ _ _ e => nomatch e

structure CEnv (env : Env) (scope : Scope) : Prop where
  gv : env.globals = mainGlobals
  bv : env.builtins = builtinsNs
  kd : scope.kind = .function
  cell : (scope.names.all fun y => y.2 != .cell) = true
  nms : (scope.names.all fun y => y.2 != .local || scope.names.lookup y.1 == some .local) = true
theorem CEnv.cell' {scope : Scope} (h : CEnv env scope) : ∀ y ∈ scope.names, y.2 ≠ .cell := fun y hy e => by have := List.all_eq_true.mp h.cell y hy; simp [e] at this
theorem CEnv.nms' {scope : Scope} (h : CEnv env scope) : ∀ y ∈ scope.names, y.2 = .local → scope.names.lookup y.1 = some .local := fun y hy e => by have := List.all_eq_true.mp h.nms y hy; simpa [e] using this

theorem comp_turnN {elt : Expr} {x : Str} {p : Pos} {ifs : List Expr} {scope : Scope} {cl : List (Str × Addr)} {δ : List (Str × PyData)} {s₁ : Shared} {f : PyData → Option PyData} {d : PyData} (hA : AOk n A) (ce : CEnv env scope) (G : Gl c s₁.heap) (hx : scope.names.lookup x = some .local)
    (hδ : Drawn' c env scope cl s₁.heap δ)
    (hb : ∀ C, match f d with
      | none => Tests c n (compEnvC scope cl C env) ((x, d) :: δ) ifs false
      | some d' => imm d' = true ∧ Tests c n (compEnvC scope cl C env) ((x, d) :: δ) ifs true ∧ Ev c n (compEnvC scope cl C env) ((x, d) :: δ) elt d')
    (C : Addr) (v : Value) (s₂ : Shared) (m : Str → Option Value) (hC : s₁.heap.get? C = none) (hv : Rd s₁.heap (fun _ => True) v d) (hk : Kp s₁.heap s₂.heap) (hn : s₂.heap.Ns C m) :
    wpAny (model c.prog c.w) A (PySem.assign (.Name x p) (compEnvC scope cl C env) v) (fun _ s₃ => ∃ h₃ tk₃ m₃, s₃ = { s₂ with heap := h₃, toks := tk₃ } ∧ h₃.Ns C m₃ ∧ (∀ b o, b ≠ C → s₂.heap.get? b = some o → h₃.get? b = some o) ∧
      wpAny (model c.prog c.w) A (ifsT ifs (compEnvC scope cl C env)) (fun ok s₄ => ∃ h₄ tk₄, s₄ = { s₂ with heap := h₄, toks := tk₄ } ∧ Kp h₃ h₄ ∧ match f d with
        | none => ok = false
        | some d => ok = true ∧ wpAny (model c.prog c.w) A (eval elt (compEnvC scope cl C env)) (fun y s₅ => ∃ h₅ tk₅, s₅ = { s₂ with heap := h₅, toks := tk₅ } ∧ Kp h₄ h₅ ∧ ∀ h P, Rd h P y d) F0 s₄) F0 s₃) F0 s₂ := by
  have hx' : (compEnvC scope cl C env).kindOf x = some .local := lookup_relabel_local hx
  have hkd : (compEnvC scope cl C env).scope.kind = .function := ce.kd
  refine wpAny_assign_Name (wpAny_storeName_local hx' (by exact hn) (fun h₃ hn₃ hs₃ => ?_) (kind_store hkd))
  have k3 : Kp s₁.heap h₃ := fun b o e => hs₃.extBut b o (fun w => by subst w; rw [hC] at e; cases e) (hk b o e)
  have XX : Cx c (compEnvC scope cl C env) (fun _ => True) h₃ ((x, d) :: δ) := by
    refine { gl := G.kp k3, fr := fun _ _ => trivial, gv := ce.gv, bv := ce.bv, kd := hkd, vars := fun y dy e => ?_ }
    simp only [List.lookup_cons] at e
    split at e
    · rename_i hq
      have : y = x := by simpa using hq
      subst this; cases e
      exact ⟨v, Var.local hkd hx' hn₃ (by simp), hv.kp k3⟩
    · exact hδ C h₃ y dy k3 e
  refine ⟨h₃, _, _, rfl, hn₃, fun b o hb e => hs₃.extBut b o hb e, ?_⟩
  have hb := hb C
  cases hf : f d with
  | none =>
    rw [hf] at hb
    exact hb.run (s := { s₂ with heap := h₃, toks := _ }) hA XX fun h₄ tk₄ k₄ => ⟨h₄, tk₄, rfl, k₄, rfl⟩
  | some d' =>
    rw [hf] at hb
    refine hb.2.1.run (s := { s₂ with heap := h₃, toks := _ }) hA XX fun h₄ tk₄ k₄ => ⟨h₄, tk₄, rfl, k₄, rfl, ?_⟩
    exact hb.2.2 A _ _ _ hA (XX.kp k₄) fun y h₅ tk₅ k₅ r => ⟨h₅, tk₅, rfl, k₅, fun _ _ => r.imm hb.1⟩

theorem comp_turnT {elt : Expr} {x y : Str} {p p' tp : Pos} {tk0 : Nat} {ifs : List Expr} {scope : Scope} {cl : List (Str × Addr)} {δ : List (Str × PyData)} {s₁ : Shared} {f : PyData → Option PyData} {d₁ d₂ : PyData} (hA : AOk n A) (ce : CEnv env scope) (G : Gl c s₁.heap)
    (hx : scope.names.lookup x = some .local) (hy : scope.names.lookup y = some .local) (hxy : (x == y) = false) (hδ : Drawn' c env scope cl s₁.heap δ)
    (hb : ∀ C, match f (.tuple [d₁, d₂]) with
      | none => Tests c n (compEnvC scope cl C env) ((y, d₂) :: (x, d₁) :: δ) ifs false
      | some d' => imm d' = true ∧ Tests c n (compEnvC scope cl C env) ((y, d₂) :: (x, d₁) :: δ) ifs true ∧ Ev c n (compEnvC scope cl C env) ((y, d₂) :: (x, d₁) :: δ) elt d')
    (C : Addr) (v : Value) (s₂ : Shared) (m : Str → Option Value) (hC : s₁.heap.get? C = none) (hv : Rd s₁.heap (fun _ => True) v (.tuple [d₁, d₂])) (hk : Kp s₁.heap s₂.heap) (hn : s₂.heap.Ns C m) :
    wpAny (model c.prog c.w) A (PySem.assign (.Tuple [.Name x p, .Name y p'] tk0 tp) (compEnvC scope cl C env) v) (fun _ s₃ => ∃ h₃ tk₃ m₃, s₃ = { s₂ with heap := h₃, toks := tk₃ } ∧ h₃.Ns C m₃ ∧ (∀ b o, b ≠ C → s₂.heap.get? b = some o → h₃.get? b = some o) ∧
      wpAny (model c.prog c.w) A (ifsT ifs (compEnvC scope cl C env)) (fun ok s₄ => ∃ h₄ tk₄, s₄ = { s₂ with heap := h₄, toks := tk₄ } ∧ Kp h₃ h₄ ∧ match f (.tuple [d₁, d₂]) with
        | none => ok = false
        | some d => ok = true ∧ wpAny (model c.prog c.w) A (eval elt (compEnvC scope cl C env)) (fun y s₅ => ∃ h₅ tk₅, s₅ = { s₂ with heap := h₅, toks := tk₅ } ∧ Kp h₄ h₅ ∧ ∀ h P, Rd h P y d) F0 s₄) F0 s₃) F0 s₂ := by
  have hx' : (compEnvC scope cl C env).kindOf x = some .local := lookup_relabel_local hx
  have hy' : (compEnvC scope cl C env).kindOf y = some .local := lookup_relabel_local hy
  have hkd : (compEnvC scope cl C env).scope.kind = .function := ce.kd
  obtain ⟨t, vs, rfl, ht, ra⟩ := (hv.kp hk).of_tuple
  have hnxy : x ≠ y := fun w => by subst w; simp at hxy
  cases hv with
  | tuple o1 o2 o3 ra =>
    have hvs := (ra.kp hk)
    cases ra with
    | cons r₁ ra => cases ra with
      | cons r₂ ra =>
        cases ra
        rename_i v₁ v₂
        have ht' : IsTup s₂.heap t [v₁, v₂].toArray := ⟨_, hk _ _ o1, o2, _, o3⟩
        refine assign_Tuple_tuple hA.h ht' rfl rfl fun h₁ he => ?_
        have k₁ : Kp s₂.heap h₁ := Kp.ext he
        show wpAny _ A (assignInOrder [PySem.assign (.Name x p) (compEnvC scope cl C env), PySem.assign (.Name y p') (compEnvC scope cl C env)] [v₁, v₂]) _ F0 _
        refine wpAny_bind (wpAny_holding (wpAny_assign_Name (wpAny_storeName_local hx' (by exact hn.keeps k₁) (fun h₂ hn₂ hs₂ => ?_) (kind_store hkd))))
        refine wpAny_bind (wpAny_holding (wpAny_assign_Name (wpAny_storeName_local hy' hn₂ (fun h₃ hn₃ hs₃ => wpAny_pure ?_) (kind_store hkd))))
        have kC : ∀ b o, b ≠ C → s₂.heap.get? b = some o → h₃.get? b = some o := fun b o hb e => hs₃.extBut b o hb (hs₂.extBut b o hb (k₁ b o e))
        have k3 : Kp s₁.heap h₃ := fun b o e => kC b o (fun w => by subst w; rw [hC] at e; cases e) (hk b o e)
        have XX : Cx c (compEnvC scope cl C env) (fun _ => True) h₃ ((y, d₂) :: (x, d₁) :: δ) := by
          refine { gl := G.kp k3, fr := fun _ _ => trivial, gv := ce.gv, bv := ce.bv, kd := hkd, vars := fun z dz e => ?_ }
          simp only [List.lookup_cons] at e
          split at e
          · rename_i hq
            have : z = y := by simpa using hq
            subst this; cases e
            exact ⟨v₂, Var.local hkd hy' hn₃ (by simp), r₂.kp k3⟩
          · split at e
            · rename_i hq
              have : z = x := by simpa using hq
              subst this; cases e
              exact ⟨v₁, Var.local hkd hx' hn₃ (by simp [hnxy]), r₁.kp k3⟩
            · exact hδ C h₃ z dz k3 e
        refine ⟨h₃, _, _, rfl, hn₃, kC, ?_⟩
        have hb := hb C
        cases hf : f (.tuple [d₁, d₂]) with
        | none =>
          rw [hf] at hb
          exact hb.run (s := { s₂ with heap := h₃, toks := _ }) hA XX fun h₄ tk₄ k₄ => ⟨h₄, tk₄, rfl, k₄, rfl⟩
        | some d' =>
          rw [hf] at hb
          refine hb.2.1.run (s := { s₂ with heap := h₃, toks := _ }) hA XX fun h₄ tk₄ k₄ => ⟨h₄, tk₄, rfl, k₄, rfl, ?_⟩
          exact hb.2.2 A _ _ _ hA (XX.kp k₄) fun y h₅ tk₅ k₅ r => ⟨h₅, tk₅, rfl, k₅, fun _ _ => r.imm hb.1⟩

theorem Comp.listN {elt iter : Expr} {x : Str} {p pos : Pos} {ifs : List Expr} {scope : Scope} {cl : List (Str × Addr)} {δ : List (Str × PyData)} {ds : List PyData} (f : PyData → Option PyData) {P : Addr → Prop} (hA : AOk n A) (ce : CEnv env scope) (G : Gl c s.heap) (hx : scope.names.lookup x = some .local)
    (he : EvAt c A s env P iter (.list ds)) (hsz : ds.length ≤ 1000) (hδ : Drawn' c env scope cl s.heap δ)
    (hb : ∀ d ∈ ds, ∀ C, match f d with
      | none => Tests c n (compEnvC scope cl C env) ((x, d) :: δ) ifs false
      | some d' => imm d' = true ∧ Tests c n (compEnvC scope cl C env) ((x, d) :: δ) ifs true ∧ Ev c n (compEnvC scope cl C env) ((x, d) :: δ) elt d') :
    Comp c A s env (.ListComp elt [⟨.Name x p, iter, ifs, 0⟩] scope pos) scope cl (eval iter env) (ds.filterMap f) := by
  intro RR hRR
  refine he _ fun xv h₁ t₁ k₁ r => ?_
  obtain ⟨ax, vs, rfl, -, hl, ra⟩ := r.of_list
  refine comp_core (s₁ := { s with heap := h₁, toks := t₁ }) (Src.list hA hl) (fun i => ds[i]?.bind f) ce.cell' ce.kd (by rw [ra.length]; exact hsz) ?_ ?_
  · intro C i v s₂ m hC hi hP hk hn
    obtain ⟨d, hd, rv⟩ := ra.get' hP
    rw [hd]
    exact comp_turnN (s₁ := { s with heap := h₁, toks := t₁ }) hA ce (G.kp k₁) hx (fun C h y d k e => hδ C h y d (k₁.trans k) e) (hb d (List.mem_of_getElem? hd)) C v s₂ m hC (rv.weak fun _ _ => trivial) hk hn
  · intro D C h' tk m vs' k hD hC hDC hn hg hv hk
    have up : ∀ b, h₁.get? b = none → s.heap.get? b = none := fun b e => by
      cases q : s.heap.get? b with
      | none => rfl
      | some o => rw [k₁ _ _ q] at e; cases e
    refine hRR D C h' tk m vs' k (up D hD) (up C hC) hDC hn hg (fun h P => ?_) (k₁.trans hk)
    have := hv h P
    rwa [ra.length, filter_range] at this

theorem Comp.tupN {elt iter : Expr} {x : Str} {p pos : Pos} {ifs : List Expr} {scope : Scope} {cl : List (Str × Addr)} {δ : List (Str × PyData)} {ds : List PyData} (f : PyData → Option PyData) {P : Addr → Prop} (hA : AOk n A) (ce : CEnv env scope) (G : Gl c s.heap) (hx : scope.names.lookup x = some .local)
    (he : EvAt c A s env P iter (.tuple ds)) (hsz : ds.length ≤ 1000) (hδ : Drawn' c env scope cl s.heap δ)
    (hb : ∀ d ∈ ds, ∀ C, match f d with
      | none => Tests c n (compEnvC scope cl C env) ((x, d) :: δ) ifs false
      | some d' => imm d' = true ∧ Tests c n (compEnvC scope cl C env) ((x, d) :: δ) ifs true ∧ Ev c n (compEnvC scope cl C env) ((x, d) :: δ) elt d') :
    Comp c A s env (.ListComp elt [⟨.Name x p, iter, ifs, 0⟩] scope pos) scope cl (eval iter env) (ds.filterMap f) := by
  intro RR hRR
  refine he _ fun xv h₁ t₁ k₁ r => ?_
  obtain ⟨ax, vs, rfl, hl, ra⟩ := r.of_tuple
  refine comp_core (s₁ := { s with heap := h₁, toks := t₁ }) (Src.tuple hA hl) (fun i => ds[i]?.bind f) ce.cell' ce.kd (by rw [ra.length]; exact hsz) ?_ ?_
  · intro C i v s₂ m hC hi hP hk hn
    obtain ⟨d, hd, rv⟩ := ra.get' hP
    rw [hd]
    exact comp_turnN (s₁ := { s with heap := h₁, toks := t₁ }) hA ce (G.kp k₁) hx (fun C h y d k e => hδ C h y d (k₁.trans k) e) (hb d (List.mem_of_getElem? hd)) C v s₂ m hC (rv.weak fun _ _ => trivial) hk hn
  · intro D C h' tk m vs' k hD hC hDC hn hg hv hk
    have up : ∀ b, h₁.get? b = none → s.heap.get? b = none := fun b e => by
      cases q : s.heap.get? b with
      | none => rfl
      | some o => rw [k₁ _ _ q] at e; cases e
    refine hRR D C h' tk m vs' k (up D hD) (up C hC) hDC hn hg (fun h P => ?_) (k₁.trans hk)
    have := hv h P
    rwa [ra.length, filter_range] at this

theorem Comp.listT {elt iter : Expr} {x y : Str} {p p' tp pos : Pos} {tk0 : Nat} {ifs : List Expr} {scope : Scope} {cl : List (Str × Addr)} {δ : List (Str × PyData)} {ds : List (PyData × PyData)} (f : PyData → Option PyData) {P : Addr → Prop} (hA : AOk n A) (ce : CEnv env scope) (G : Gl c s.heap)
    (hx : scope.names.lookup x = some .local) (hy : scope.names.lookup y = some .local) (hxy : (x == y) = false)
    (he : EvAt c A s env P iter (.list (ds.map fun q => .tuple [q.1, q.2]))) (hsz : ds.length ≤ 1000) (hδ : Drawn' c env scope cl s.heap δ)
    (hb : ∀ d ∈ ds, ∀ C, match f (.tuple [d.1, d.2]) with
      | none => Tests c n (compEnvC scope cl C env) ((y, d.2) :: (x, d.1) :: δ) ifs false
      | some d' => imm d' = true ∧ Tests c n (compEnvC scope cl C env) ((y, d.2) :: (x, d.1) :: δ) ifs true ∧ Ev c n (compEnvC scope cl C env) ((y, d.2) :: (x, d.1) :: δ) elt d') :
    Comp c A s env (.ListComp elt [⟨.Tuple [.Name x p, .Name y p'] tk0 tp, iter, ifs, 0⟩] scope pos) scope cl (eval iter env) (ds.filterMap fun q => f (.tuple [q.1, q.2])) := by
  intro RR hRR
  refine he _ fun xv h₁ t₁ k₁ r => ?_
  obtain ⟨ax, vs, rfl, -, hl, ra⟩ := r.of_list
  have hln : vs.length = ds.length := by rw [ra.length, List.length_map]
  refine comp_core (s₁ := { s with heap := h₁, toks := t₁ }) (Src.list hA hl) (fun i => (ds.map fun q => PyData.tuple [q.1, q.2])[i]?.bind f) ce.cell' ce.kd (by rw [hln]; exact hsz) ?_ ?_
  · intro C i v s₂ m hC hi hP hk hn
    obtain ⟨d, hd, rv⟩ := ra.get' hP
    obtain ⟨q, hq, rfl⟩ : ∃ q, ds[i]? = some q ∧ d = .tuple [q.1, q.2] := by
      rw [List.getElem?_map] at hd
      obtain ⟨q, h1, h2⟩ := Option.map_eq_some_iff.mp hd
      exact ⟨q, h1, h2.symm⟩
    simp only [hd]
    exact comp_turnT (s₁ := { s with heap := h₁, toks := t₁ }) hA ce (G.kp k₁) hx hy hxy (fun C h y d k e => hδ C h y d (k₁.trans k) e) (hb q (List.mem_of_getElem? hq)) C v s₂ m hC (rv.weak fun _ _ => trivial) hk hn
  · intro D C h' tk m vs' k hD hC hDC hn hg hv hk
    have up : ∀ b, h₁.get? b = none → s.heap.get? b = none := fun b e => by
      cases q : s.heap.get? b with
      | none => rfl
      | some o => rw [k₁ _ _ q] at e; cases e
    refine hRR D C h' tk m vs' k (up D hD) (up C hC) hDC hn hg (fun h P => ?_) (k₁.trans hk)
    have := hv h P
    rw [ra.length, filter_range, List.filterMap_map] at this
    exact this

theorem Comp.ev {elt iter target : Expr} {ifs : List Expr} {scope : Scope} {pos : Pos} {cl : List (Str × Addr)} {outs : List PyData} {P : Addr → Prop} (h : Comp c A s env (.ListComp elt [⟨target, iter, ifs, 0⟩] scope pos) scope cl (eval iter env) outs) (ce : CEnv env scope)
    (hcl : closureFor scope env = pure cl) (hf : ∀ a, s.heap.get? a = none → P a) (hs : ∀ x, foldedSetIterable iter env x = pure x := by intro _; rfl) : EvAt c A s env P (.ListComp elt [⟨target, iter, ifs, 0⟩] scope pos) (.list outs) := by
  intro Q q
  rw [eval_ListComp]
  refine wpAny_comprehension_free (use := none) rfl hs hcl ce.kd ce.nms' (h (fun acc C => compPost (model c.prog c.w) A F0 none Q acc C) ?_)
  intro D C h' tk m vs k hD hC hDC hn hg hv hk
  refine ⟨m, hn, fun h'' hs'' => ?_⟩
  have k2 : Kp s.heap h'' := fun b o e => hs''.extBut b o (fun w => by subst w; rw [hC] at e; cases e) (hk b o e)
  exact q _ h'' tk k2 (.list (hf _ hD) (hs''.extBut _ _ hDC hg) (hv _ _))

theorem St.assignComp {elt iter target : Expr} {ifs : List Expr} {scope : Scope} {pos spos py : Pos} {cl : List (Str × Addr)} {outs : List PyData} {y : Str} {Q : Flow → Shared → Prop} (S : St c env X h₀ g s.heap γ fx R)
    (h : Comp c A s env (.ListComp elt [⟨target, iter, ifs, 0⟩] scope pos) scope cl (eval iter env) outs) (ce : CEnv env scope) (hcl : closureFor scope env = pure cl)
    (k : ∀ h' tk, St c env X h₀ g h' ((y, .list outs) :: γ) fx R → Q .next { s with heap := h', toks := tk })
    (hsw : swapsWith (.ListComp elt [⟨target, iter, ifs, 0⟩] scope pos) (some (.Name y py)) spos.line env = pure true := by rfl)
    (hy : env.kindOf y = some .local := by rfl) (hfy : (fx.all fun p => !(p.1 == y)) = true := by rfl) (hs : ∀ x, foldedSetIterable iter env x = pure x := by intro _; rfl) :
    wpAny (model c.prog c.w) A (exec (.Assign [.Name y py] (.ListComp elt [⟨target, iter, ifs, 0⟩] scope pos) spos) env) Q F0 s := by
  rw [exec_Assign_Name_used _ _ _ _ hsw]
  refine wpAny_bind (wpAny_standAt (wpAny_bind ?_))
  show wpAny _ A (do let _ ← comprehension (.ListComp elt [⟨target, iter, ifs, 0⟩] scope pos) scope env _ (newList []) false (eval iter env) (some (PySem.assign (.Name y py) env))) _ _ s
  refine wpAny_bind (wpAny_mono (wpAny_comprehension_free (use := some (PySem.assign (.Name y py) env)) (Q := fun _ s' => Q .next s') rfl hs hcl ce.kd ce.nms'
    (h (fun acc C => compPost (model c.prog c.w) A F0 (some (PySem.assign (.Name y py) env)) (fun _ s' => Q .next s') acc C) ?_)) (fun _ s' hq => wpAny_pure (wpAny_pure hq)) fun _ _ e => e)
  intro D C h' tk m vs kk hD hC hDC hn hg hv hk
  have S' := S.kp hk
  have nX : ∀ b, s.heap.get? b = none → b ∉ X := fun b e w => by obtain ⟨o, q1, _⟩ := S.xd _ w; rw [q1] at e; cases e
  have n0 : ∀ b, s.heap.get? b = none → h₀.get? b = none := fun b e => by
    cases q : h₀.get? b with
    | none => rfl
    | some o => rw [S.k0 _ _ q] at e; cases e
  have ng : ∀ b, s.heap.get? b = none → g.get? b = none := fun b e => by
    cases q : g.get? b with
    | none => rfl
    | some o => rw [S.keep _ _ (nX b e) q] at e; cases e
  show wpAny _ A (PySem.assign (.Name y py) env (.ref D)) _ F0 _
  refine St.bind1 (s := { s with heap := h', toks := tk }) S'.rebase (.list (nX D hD) hg (hv _ _)) (fun h₂ tk₂ S₂ => ?_) hy hfy
  obtain ⟨o, es, ep, ho, hd, hr⟩ := hn
  have ho₂ := S₂.keep _ _ (nX C hC) ho
  refine ⟨m, ⟨o, es, ep, ho₂, hd, hr⟩, fun h₃ hs₃ => k h₃ tk₂ ?_⟩
  exact (S'.back S₂).iterD (fun b o hb e => hs₃.extBut b o hb e) ho₂ (by rw [hd]; exact ⟨(fun _ _ q => nomatch q), (fun _ q => nomatch q)⟩) (n0 C hC) (ng C hC) (nX C hC)
end
end Mine
end

section
namespace Mine
open PySem PySem.Calls PyProof.Rows

/-! an item of a written dict -/
inductive RdP (h : Heap) (P : Addr → Prop) : List (Value × Value) → List (PyData × PyData) → Prop
  | nil : RdP h P [] []
  | cons {v u : Value} {vs : List (Value × Value)} {d e : PyData} {ds : List (PyData × PyData)} : Rd h P v d → Rd h P u e → RdP h P vs ds → RdP h P ((v, u) :: vs) ((d, e) :: ds)
theorem RdP.sq {h h' : Heap} {P P' : Addr → Prop} (q : Sq P P' h h') : ∀ {vs : List (Value × Value)} {ds : List (PyData × PyData)}, RdP h P vs ds → RdP h' P' vs ds
  | _, _, .nil => .nil
  | _, _, .cons a b r => .cons (a.sq q) (b.sq q) (r.sq q)
theorem RdP.kp {h h' : Heap} {P : Addr → Prop} (k : Kp h h') {vs : List (Value × Value)} {ds : List (PyData × PyData)} (r : RdP h P vs ds) : RdP h' P vs ds := r.sq (Sq.kp k)

theorem RdP.ints {h : Heap} {P : Addr → Prop} : ∀ {vs : List (Value × Value)} {kds : List (Int × PyData)}, RdP h P vs (kds.map fun p => (.int p.1, p.2)) →
    allIntKeys vs = true ∧ (intKeyPairs vs).map (·.1) = kds.map (·.1) ∧ ∀ k d, kds.lookup k = some d → ∃ v, valueAt (intKeyPairs vs) k = some v ∧ Rd h P v d
  | _, [], .nil => ⟨rfl, rfl, fun _ _ e => nomatch e⟩
  | _, (i, e) :: kds, .cons a b r => by
    obtain ⟨h1, h2, h3⟩ := RdP.ints r
    obtain ⟨t, rfl⟩ := a.of_int
    refine ⟨h1, by simp [intKeyPairs, h2], fun k d hk => ?_⟩
    simp only [List.lookup_cons] at hk
    split at hk
    · rename_i hq
      have : k = i := by simpa using hq
      subst this; cases hk
      exact ⟨_, by simp [intKeyPairs, valueAt], b⟩
    · rename_i hq
      have hne : ¬ i = k := fun w => by subst w; simp at hq
      obtain ⟨v, q1, q2⟩ := h3 k d hk
      exact ⟨v, by simpa [intKeyPairs, valueAt, hne] using q1, q2⟩
theorem RdP.strs {h : Heap} {P : Addr → Prop} : ∀ {vs : List (Value × Value)} {kds : List (Str × PyData)}, RdP h P vs (kds.map fun p => (.str p.1, p.2)) →
    allStrKeys vs = true ∧ (strPairs vs).map (·.1) = kds.map (·.1) ∧ ∀ k d, kds.lookup k = some d → ∃ v, valueAt (strPairs vs) k = some v ∧ Rd h P v d
  | _, [], .nil => ⟨rfl, rfl, fun _ _ e => nomatch e⟩
  | _, (i, e) :: kds, .cons a b r => by
    obtain ⟨h1, h2, h3⟩ := RdP.strs r
    obtain ⟨t, rfl⟩ := a.of_str
    refine ⟨h1, by simp [strPairs, h2], fun k d hk => ?_⟩
    simp only [List.lookup_cons] at hk
    split at hk
    · rename_i hq
      have : k = i := by simpa using hq
      subst this; cases hk
      exact ⟨_, by simp [strPairs, valueAt], b⟩
    · rename_i hq
      have hne : ¬ i = k := fun w => by subst w; simp at hq
      obtain ⟨v, q1, q2⟩ := h3 k d hk
      exact ⟨v, by simpa [strPairs, valueAt, hne] using q1, q2⟩

noncomputable def EvP (c : Cfg) (n : Nat) (env : Env) (γ : List (Str × PyData)) (pos : Pos) (ks : List (Option Expr)) (es : List Expr) (ds : List (PyData × PyData)) : Prop :=
  ∀ (A : Around) (s : Shared) (P : Addr → Prop) (Q : List (Value × Value) → Shared → Prop), AOk n A → Cx c env P s.heap γ →
    (∀ vs h' tk, Kp s.heap h' → RdP h' P vs ds → Q vs { s with heap := h', toks := tk }) → wpAny (model c.prog c.w) A (evalPairs (pairTrees ks es env pos)) Q F0 s

section
variable {c : Cfg} {n : Nat} {env : Env} {γ : List (Str × PyData)}
theorem EvP.nil {pos : Pos} : EvP c n env γ pos [] [] [] := fun A s P Q hA X q => pairTrees_nil_walk (q [] s.heap s.toks (Kp.refl _) .nil)
theorem EvP.cons {pos : Pos} {k e : Expr} {ks : List (Option Expr)} {es : List Expr} {dk d : PyData} {ds : List (PyData × PyData)} (h1 : Ev c n env γ k dk) (h2 : Ev c n env γ e d) (h3 : EvP c n env γ pos ks es ds) : EvP c n env γ pos (some k :: ks) (e :: es) ((dk, d) :: ds) :=
  fun A s P Q hA X q => pairTrees_cons_walk (h1 A s P _ hA X fun v g t k₁ r => h2 A _ P _ hA (X.kp k₁) fun v' g' t' k₂ r' => h3 A _ P _ hA ((X.kp k₁).kp k₂) fun vs g'' t'' k₃ r'' =>
    q _ g'' t'' ((k₁.trans k₂).trans k₃) (.cons ((r.kp k₂).kp k₃) (r'.kp k₃) r''))

theorem Ev.dictI {keys : List (Option Expr)} {values : List Expr} {idx : Expr} {pos pos' : Pos} {kds : List (Int × PyData)} {k : Int} {d : PyData} {ds : List (PyData × PyData)} (h : EvP c n env γ pos keys values ds) (hds : ds = kds.map fun p => (.int p.1, p.2)) (hn : (kds.map (·.1)).Nodup) (hi : Ev c n env γ idx (.int k)) (hk : kds.lookup k = some d) (hf : flat d = true)
    (hall : keys.all (·.isSome) = true := by rfl) (hl : keys.length = values.length := by rfl) (h0 : keys ≠ [] := by simp) (hlen : keys.length ≤ 15 := by decide) (hs : ∀ o i, subscripted idx false o i = operate [o, i] (getItem o i) := by intro _ _; rfl) :
    Ev c n env γ (.Subscript (.Dict keys values pos) idx pos') d := fun A s P Q hA X q => by
  subst hds
  refine Subscript_ (wpAny_Dict_walk (knd := intKind c.prog c.w) hall hl h0 hlen (h A _ P _ hA (X.kp (Kp.push _ _)) fun vs h₁ t₁ k₁ r => ?_))
  obtain ⟨q1, q2, q3⟩ := r.ints
  have hd0 : h₁.DictOf (intKind c.prog c.w) s.heap.objs.size [] := (Heap.DictOf.new _).keep k₁
  refine display_done_int q1 (by rw [q2]; exact hn) hd0 fun h₂ hd hs₂ => ?_
  have k2 : Kp s.heap h₂ := fun b o e => hs₂.extBut b o (Nat.ne_of_lt (Heap.lt_size e)) (k₁ b o (Heap.get?_push_of_some _ e))
  refine hi A { s with heap := h₂, toks := t₁ + vs.length } P _ hA (X.kp k2) fun v h₃ t₃ k₃ r₃ => ?_
  obtain ⟨u, rfl⟩ := r₃.of_int
  obtain ⟨w, e1, e2⟩ := q3 k d hk
  have e3 : Rd h₂ P w d := (e2.flat (P' := fun _ => False) hf).sq ⟨fun _ _ _ _ f => f.elim, fun b o vs n e hc hd' => hs₂.extBut b o (fun w => by
    subst w
    obtain ⟨o', es, ep, ho', _, hdd, _⟩ := hd0
    rw [ho'] at e; cases e; rw [hdd] at hd'; cases hd') e⟩
  have hm : h₃.MapOf (intKind c.prog c.w) s.heap.objs.size (valueAt (intKeyPairs vs)) := (hd.keep k₃).mapOf
  exact tail_any (Heap.MapOf.typeIs (s := { s with heap := h₃, toks := t₃ }) hm) slot_dict_getitem.lookup (wpAny_getItem_of (by simp [intKind, Value.isInt]) hm e1 (q _ _ _ (k2.trans k₃) (e3.kp k₃))) (hs _ _)
theorem Ev.dictS {keys : List (Option Expr)} {values : List Expr} {idx : Expr} {pos pos' : Pos} {kds : List (Str × PyData)} {k : Str} {d : PyData} {ds : List (PyData × PyData)} (h : EvP c n env γ pos keys values ds) (hds : ds = kds.map fun p => (.str p.1, p.2)) (hn : (kds.map (·.1)).Nodup) (hi : Ev c n env γ idx (.str k)) (hk : kds.lookup k = some d) (hf : flat d = true)
    (hall : keys.all (·.isSome) = true := by rfl) (hl : keys.length = values.length := by rfl) (h0 : keys ≠ [] := by simp) (hlen : keys.length ≤ 15 := by decide) (hs : ∀ o i, subscripted idx false o i = operate [o, i] (getItem o i) := by intro _ _; rfl) :
    Ev c n env γ (.Subscript (.Dict keys values pos) idx pos') d := fun A s P Q hA X q => by
  subst hds
  refine Subscript_ (wpAny_Dict_walk (knd := strKind c.prog c.w) hall hl h0 hlen (h A _ P _ hA (X.kp (Kp.push _ _)) fun vs h₁ t₁ k₁ r => ?_))
  obtain ⟨q1, q2, q3⟩ := r.strs
  have hd0 : h₁.DictOf (strKind c.prog c.w) s.heap.objs.size [] := (Heap.DictOf.new _).keep k₁
  refine display_done_str q1 (by rw [q2]; exact hn) hd0 fun h₂ hd hs₂ => ?_
  have k2 : Kp s.heap h₂ := fun b o e => hs₂.extBut b o (Nat.ne_of_lt (Heap.lt_size e)) (k₁ b o (Heap.get?_push_of_some _ e))
  refine hi A { s with heap := h₂, toks := t₁ + vs.length } P _ hA (X.kp k2) fun v h₃ t₃ k₃ r₃ => ?_
  obtain ⟨u, rfl⟩ := r₃.of_str
  obtain ⟨w, e1, e2⟩ := q3 k d hk
  have e3 : Rd h₂ P w d := (e2.flat (P' := fun _ => False) hf).sq ⟨fun _ _ _ _ f => f.elim, fun b o vs n e hc hd' => hs₂.extBut b o (fun w => by
    subst w
    obtain ⟨o', es, ep, ho', _, hdd, _⟩ := hd0
    rw [ho'] at e; cases e; rw [hdd] at hd'; cases hd') e⟩
  have hm : h₃.MapOf (strKind c.prog c.w) s.heap.objs.size (valueAt (strPairs vs)) := (hd.keep k₃).mapOf
  exact tail_any (Heap.MapOf.typeIs (s := { s with heap := h₃, toks := t₃ }) hm) slot_dict_getitem.lookup (wpAny_getItem_of (strKind_is _ _ _ _) hm e1 (q _ _ _ (k2.trans k₃) (e3.kp k₃))) (hs _ _)

/-! the table of tokens -/
theorem tab_name {p : Pos} {A : Around} {s : Shared} {P : Addr → Prop} {Q : Value → Shared → Prop} (X : Cx c env P s.heap γ)
    (h : ∀ a f, (a == sysModules) = false → s.heap.MapOf (strKind c.prog c.w) a f → (∀ k, match tokNum k with | some i => ∃ t, f k = some (.int i t) | none => f k = none) → Q (.ref a) s)
    (hk : env.kindOf (Str.ofString "EXACT_TOKEN_TYPES") = some .globalImplicit := by rfl) : wpAny (model c.prog c.w) A (eval (.Name (Str.ofString "EXACT_TOKEN_TYPES") p) env) Q F0 s := by
  obtain ⟨a, f, h1, h2, h3, h4⟩ := X.gl.tab
  exact Name_function_global X.kd hk (loadGlobal_global (X.gv ▸ X.gl.g) h1 (h a f h2 h3 h4))
theorem Ev.tabItem {idx : Expr} {p pos : Pos} {k : Str} {i : Int} (hi : Ev c n env γ idx (.str k)) (hk : tokNum k = some i) (hkd : env.kindOf (Str.ofString "EXACT_TOKEN_TYPES") = some .globalImplicit := by rfl)
    (hs : ∀ o i, subscripted idx false o i = operate [o, i] (getItem o i) := by intro _ _; rfl) : Ev c n env γ (.Subscript (.Name (Str.ofString "EXACT_TOKEN_TYPES") p) idx pos) (.int i) := fun A s P Q hA X q => by
  refine Subscript_ (tab_name X (fun a f h2 h3 h4 => hi A s P _ hA X fun v h₁ t₁ k₁ r => ?_) hkd)
  obtain ⟨u, rfl⟩ := r.of_str
  have := h4 k
  rw [hk] at this
  obtain ⟨t, e⟩ := this
  have hm : h₁.MapOf (strKind c.prog c.w) a f := by obtain ⟨o, es, ep, ho, r⟩ := h3; exact ⟨o, es, ep, k₁ _ _ ho, r⟩
  exact tail_any (Heap.MapOf.typeIs (s := { s with heap := h₁, toks := t₁ }) hm) slot_dict_getitem.lookup (wpAny_getItem_of (strKind_is _ _ _ _) hm e (q _ _ _ k₁ (.int _ _))) (hs _ _)
theorem Tr.tabIn {e : Expr} {p pos : Pos} {k : Str} (hi : Ev c n env γ e (.str k)) (hkd : env.kindOf (Str.ofString "EXACT_TOKEN_TYPES") = some .globalImplicit := by rfl) :
    Tr c n env γ (.Compare e [.In] [.Name (Str.ofString "EXACT_TOKEN_TYPES") p] pos) (tokNum k).isSome := fun A s P Q hA X q => by
  refine wpAny_isTrue_Compare1 (hi A s P _ hA X fun v h₁ t₁ k₁ r => tab_name (s := { s with heap := h₁, toks := t₁ }) (X.kp k₁) (fun a f h2 h3 h4 => ?_) hkd)
  obtain ⟨u, rfl⟩ := r.of_str
  refine wpAny_in_of (strKind_is _ _ _ _) h2 h3 (wpAny_truthy_bool ?_)
  have e : (f k).isSome = (tokNum k).isSome := by
    have := h4 k
    cases ht : tokNum k with
    | none => rw [ht] at this; simp only at this; rw [this]; rfl
    | some i => rw [ht] at this; obtain ⟨t, this⟩ := this; rw [this]; rfl
  rw [e]
  exact q h₁ _ k₁
theorem Ev.em {p : Pos} (hkd : env.kindOf (Str.ofString "ENDMARKER") = some .globalImplicit := by rfl) : Ev c n env γ (.Name (Str.ofString "ENDMARKER") p) (.int 0) := fun A s P Q hA X q => by
  obtain ⟨t, h⟩ := X.gl.em
  exact Name_function_global X.kd hkd (loadGlobal_global (X.gv ▸ X.gl.g) h (q _ s.heap s.toks (Kp.refl _) (.int _ _)))
end
end Mine
end

section
namespace Mine
open PySem PySem.Calls PyProof.Rows

theorem sub_str_str : isSubtype (.type "str") (.type "str") = pure true := by rw [isSubtype_type]; kernel_rfl
theorem sub_str_bytes : isSubtype (.type "str") (.type "bytes") = pure false := by rw [isSubtype_type]; kernel_rfl
theorem ty_str : typeOf (.type "str") = pure (.type "type") := by
  show (pure (.type ((Manifest.find? "str").elim "type" (·.metatype))) : Sem Value) = _
  kernel_rfl
theorem ty_bytes : typeOf (.type "bytes") = pure (.type "type") := by
  show (pure (.type ((Manifest.find? "bytes").elim "type" (·.metatype))) : Sem Value) = _
  kernel_rfl
theorem args_issubclass_nested_3 (a b c : Value) : argsOk "issubclass.nested" ⟨[a, b, c], []⟩ := by unfold argsOk; kernel_rfl
theorem kind_issubclass_nested : builtinKind "issubclass.nested" = none := by decide +kernel
theorem plain_issubclass_nested : plainId "issubclass.nested" = true := by decide +kernel

section
variable {prog : Program} {w : World} {A : Around} {E : Value → Shared → Prop} {s : Shared}
theorem isc_str {dep : Int} {tk : Tok} : Meets (Builtin.«issubclass.nested» ⟨[.type "str", .type "str", .int dep tk], []⟩) (fun _ R s => R (.ok (.ret (.bool true))) s) :=
  .of_wp fun prog w A R s h => by
    have hm := ty_str
    have hs := sub_str_str
    repeat (any_goals (first | assumption | (rw [hm]) | (rw [hs]) | wp_step))
    exact ⟨_, rfl, h⟩
theorem isc_tuple {tp : Addr} {l cs : List Value} {tk : Tok} {Q : Fin → Shared → Prop} (htp : s.heap.get? tp = some { cls := .type "tuple", data := .seq l.toArray }) (hl : l = Value.type "str" :: cs)
    (hq : Q (.done (.ret (.bool true))) s) : wpAny (model prog w) A (Builtin.«issubclass.nested» ⟨[.type "str", .ref tp, .int 0 tk], []⟩) Q E s := by
  obtain ⟨h, g, d, t, os⟩ := s
  have hT2 : (⟨h, g, d, t, os⟩ : Shared).TypeIs (.ref tp) "tuple" := ⟨_, htp, rfl⟩
  have f1 := F.isi_sub_tuple
  repeat (any_goals (first | assumption | wp_step))
  refine wpAny_arrayLoop ?_
  simp only [Option.getD_some, List.toList_toArray]
  rw [hl, List.forIn_cons]
  refine wpAny_bind (wpAny_bind (call_function_meets kind_issubclass_nested plain_issubclass_nested F.entry_issubclass_nested (args_issubclass_nested_3 _ _ _) isc_str ?_))
  show wpAny _ _ (truthy (.bool true) >>= _) _ _ _
  refine wpAny_bind (m := truthy (.bool true)) (wpAny_pure ?_)
  exact wpAny_bind (wpAny_pure (wpAny_pure (wpAny_pure (wpAny_pure hq))))
theorem isc_call {tp : Addr} {cs : List Value} {Q : Value → Shared → Prop} (htp : s.heap.get? tp = some { cls := .type "tuple", data := .seq (Value.type "str" :: cs).toArray })
    (hq : Q (.bool true) s) : wpAny (model prog w) A (call (.builtin "issubclass") [.type "str", .ref tp]) Q E s :=
  call_issubclass (S := fun _ R s' => s'.heap.get? tp = some { cls := .type "tuple", data := .seq (Value.type "str" :: cs).toArray } ∧ R (.ok (.ret (.bool true))) s')
    (fun _ _ _ _ _ hs => issubclass_outer (isc_tuple hs.1 rfl hs.2)) ⟨htp, hq⟩
end

section
variable {c : Cfg} {n : Nat} {env : Env} {γ : List (Str × PyData)}
theorem Ev.isBytes {e : Expr} {p p' pos : Pos} {x : Str} (h : Ev c n env γ e (.str x)) (hk : env.kindOf (Str.ofString "isinstance") = some .globalImplicit := by rfl) (hk' : env.kindOf (Str.ofString "bytes") = some .globalImplicit := by rfl)
    (he : starEach [e, .Name (Str.ofString "bytes") p'] env = (false, eval e env) :: starEach [.Name (Str.ofString "bytes") p'] env := by rfl) :
    Ev c n env γ (.Call (.Name (Str.ofString "isinstance") p) [e, .Name (Str.ofString "bytes") p'] [] pos) (.bool false) :=
  fun A s P Q hA X q => Call_ (glob_bi (x := Str.ofString "isinstance") (v := .builtin "isinstance") rfl X (callWith_builtin1 (args_cons (h A s P _ hA X fun v g t k₁ r => args_cons (glob_bi (x := Str.ofString "bytes") (v := .type "bytes") rfl (X.kp k₁) (args_nil (by
    obtain ⟨u, rfl⟩ := r.of_str
    exact call_isinstance (isinstance_false_str (by decide) ty_bytes sub_str_bytes) (q _ _ _ k₁ (.bool _)))) hk') rfl) he) he rfl) hk) rfl
theorem Tr.isBytes {e : Expr} {p p' pos : Pos} {x : Str} (h : Ev c n env γ e (.str x)) (hk : env.kindOf (Str.ofString "isinstance") = some .globalImplicit := by rfl) (hk' : env.kindOf (Str.ofString "bytes") = some .globalImplicit := by rfl)
    (he : starEach [e, .Name (Str.ofString "bytes") p'] env = (false, eval e env) :: starEach [.Name (Str.ofString "bytes") p'] env := by rfl) :
    Tr c n env γ (.Call (.Name (Str.ofString "isinstance") p) [e, .Name (Str.ofString "bytes") p'] [] pos) false := Tr.plain Tru.bool (Ev.isBytes h hk hk' he)

/-- fspath of a text: the text -/
theorem fspath_spec {x : Str} : FnSpec c 1 11 [.str x] (.str x) := by
  refine FnSpec.of1 (x := Str.ofString "path") (fun pm code doc v => rfl) ?_
  intro A s h₀ L a code hA S
  refine wpAny_execs_cons (wpAny_Assign_Name (Call_ (glob_bi (x := Str.ofString "type") (v := .type "type") rfl S.cx (PyProof.Rows.callWith_type1 (args_cons (Ev.name (d := .str x) rfl (by decide) A s _ _ hA S.cx fun v h₁ t₁ k₁ r₁ => args_nil ?_) rfl) rfl rfl))))
  obtain ⟨u, rfl⟩ := r₁.of_str
  refine call_type_of (typeIs_str _ _ _) (by decide) ((S.kp k₁).bindRaw (s := { s with heap := h₁, toks := t₁ }) (fun h₂ t₂ S₂ => ?_) rfl rfl rfl)
  refine wpAny_execs_cons (wpAny_If (isTrue_plain (Call_ (glob_bi (x := Str.ofString "issubclass") (v := .builtin "issubclass") rfl S₂.cx (callWith_builtin1 (args_cons (wpAny_Name (S₂.raw (.head _) _ _ _ _ (Kp.refl _) ?_)) rfl) rfl rfl)))))
  refine args_cons (Tuple_ (args_cons (glob_bi (x := Str.ofString "str") (v := .type "str") rfl S₂.cx (args_cons (glob_bi (x := Str.ofString "bytes") (v := .type "bytes") rfl S₂.cx (args_nil ?_)) rfl)) rfl)) rfl
  refine wpAny_newObj_type (args_nil (isc_call (Heap.get?_push_size _ rfl) (wpAny_truthy_bool ?_))) (by show 2 ≤ sizeLine; decide)
  have S₃ := S₂.kp (Kp.push h₂ { cls := .type "tuple", dict := none, data := .seq [Value.type "str", .type "bytes"].toArray })
  refine wpAny_execs_cons (St.ret (P := fun a => h₀.get? a = none) ((S₃.ev (s := { s with heap := h₂.push { cls := .type "tuple", dict := none, data := .seq [Value.type "str", .type "bytes"].toArray }, toks := t₂ }) hA (Ev.name (d := .str x) rfl)).flat rfl) fun v h' tk k r => ?_)
  exact ⟨h', tk, rfl, S₃.k0.trans k, r⟩
/-- _get_sep of a text -/
theorem getsep_spec {x : Str} : FnSpec c 1 2 [.str x] (.str (Str.ofString "/")) := by
  refine FnSpec.of1 (x := Str.ofString "path") (fun pm code doc v => rfl) ?_
  intro A s h₀ L a code hA S
  refine wpAny_execs_cons (S.ite hA (Tr.isBytes (Ev.name rfl)) fun h₁ t₁ S₁ => ?_)
  refine wpAny_execs_cons (St.ret (P := fun a => h₀.get? a = none) ((S₁.ev hA Ev.str).flat rfl) fun v h' tk k r => ?_)
  exact ⟨h', tk, rfl, S₁.k0.trans k, r⟩
end
end Mine
end

section
namespace Mine
open PySem PySem.Calls PyProof.Rows

noncomputable abbrev sl : Str := Str.ofString "/"
noncomputable abbrev e0 : Str := Str.ofString ""
noncomputable def splitrootF (x : Str) : Str × Str :=
  if Txt.slice x none (some 1) != sl then (e0, x)
  else if (Txt.slice x (some 1) (some 2) != sl || Txt.slice x (some 2) (some 3) == sl) then (sl, Txt.slice x (some 1) none)
  else (Txt.slice x none (some 2), Txt.slice x (some 2) none)
noncomputable def cutF (x : Str) : Str := Txt.slice x none (some (Txt.rfind x sl + 1))
noncomputable def tailF (x : Str) : Str := Txt.slice x (some (Txt.rfind x sl + 1)) none
noncomputable def headF (x : Str) : Str := if (((cutF x).length : Int) != 0 && cutF x != Txt.mul sl ((cutF x).length : Int)) then Txt.rstripChars (cutF x) sl else cutF x

theorem fit (x : Str) (h : x.length ≤ 1000) : x.length ≤ sizeLine := by rw [sizeLine_eq]; omega
theorem fit63 (x : Str) (h : x.length ≤ 1000) : (x.length : Int) < 2 ^ 63 := by omega
theorem cut_len (x : Str) (h : x.length ≤ 1000) : (cutF x).length ≤ 1000 := Nat.le_trans (Txt.slice_le _ _ _) h
theorem mul_ok (x : Str) (k : Nat) (h : x.length ≤ 10) (hk : k ≤ 1000) : MulOk x (k : Int) := mulOk_of 10 1000 h (by omega) (by omega) (by decide) (by decide)

section
variable {c : Cfg} {n : Nat}
theorem isabs_spec {x : Str} : FnSpec c 2 13 [.str x] (.bool (Txt.startswith x sl)) := by
  refine FnSpec.of1 (x := Str.ofString "s") (fun pm code doc v => rfl) ?_
  intro A s h₀ L a code hA S
  refine wpAny_execs_cons (S.assign (S.ev hA (Ev.callF fspath_spec (Nat.le_refl _) (.cons (Ev.name (d := .str x) rfl) .nil))) fun h₁ t₁ S₁ => ?_)
  refine wpAny_execs_cons (S₁.assign (s := { s with heap := h₁, toks := t₁ }) (S₁.ev hA (Ev.callF (getsep_spec (x := x)) (Nat.le_refl _) (.cons (Ev.name rfl) .nil))) fun h₂ t₂ S₂ => ?_)
  refine wpAny_execs_cons (St.ret (P := fun a => h₀.get? a = none) ((S₂.ev (s := { s with heap := h₂, toks := t₂ }) hA (Ev.startswith (x := x) (y := sl) (Ev.name rfl) (Ev.name rfl))).flat rfl) fun v h' tk k r => ?_)
  exact ⟨h', tk, rfl, S₂.k0.trans k, r⟩

theorem basename_spec {x : Str} (hx : x.length ≤ 1000) : FnSpec c 2 16 [.str x] (.str (tailF x)) := by
  refine FnSpec.of1 (x := Str.ofString "p") (fun pm code doc v => rfl) ?_
  intro A s h₀ L a code hA S
  refine wpAny_execs_cons (S.assign (S.ev hA (Ev.callF fspath_spec (Nat.le_refl _) (.cons (Ev.name (d := .str x) rfl) .nil))) fun h₁ t₁ S₁ => ?_)
  refine wpAny_execs_cons (S₁.assign (s := { s with heap := h₁, toks := t₁ }) (S₁.ev hA (Ev.callF (getsep_spec (x := x)) (Nat.le_refl _) (.cons (Ev.name rfl) .nil))) fun h₂ t₂ S₂ => ?_)
  refine wpAny_execs_cons (S₂.assign (s := { s with heap := h₂, toks := t₂ }) (S₂.ev hA (Ev.bin Bin.addI (Ev.rfind (x := x) (y := sl) (Ev.name rfl) (Ev.name rfl)) Ev.int)) fun h₃ t₃ S₃ => ?_)
  refine wpAny_execs_cons (St.ret (P := fun a => h₀.get? a = none) ((S₃.ev (s := { s with heap := h₃, toks := t₃ }) hA (Ev.sliceFrom (x := x) (k := Txt.rfind x sl + 1) (Ev.name rfl) (Ev.name rfl) (fit x hx))).flat rfl) fun v h' tk k r => ?_)
  exact ⟨h', tk, rfl, S₃.k0.trans k, r⟩

theorem dirname_spec {x : Str} (hx : x.length ≤ 1000) : FnSpec c 2 17 [.str x] (.str (headF x)) := by
  have hc := cut_len x hx
  refine FnSpec.of1 (x := Str.ofString "p") (fun pm code doc v => rfl) ?_
  intro A s h₀ L a code hA S
  refine wpAny_execs_cons (S.assign (S.ev hA (Ev.callF fspath_spec (Nat.le_refl _) (.cons (Ev.name (d := .str x) rfl) .nil))) fun h₁ t₁ S₁ => ?_)
  refine wpAny_execs_cons (S₁.assign (s := { s with heap := h₁, toks := t₁ }) (S₁.ev hA (Ev.callF (getsep_spec (x := x)) (Nat.le_refl _) (.cons (Ev.name rfl) .nil))) fun h₂ t₂ S₂ => ?_)
  refine wpAny_execs_cons (S₂.assign (s := { s with heap := h₂, toks := t₂ }) (S₂.ev hA (Ev.bin Bin.addI (Ev.rfind (x := x) (y := sl) (Ev.name rfl) (Ev.name rfl)) Ev.int)) fun h₃ t₃ S₃ => ?_)
  refine wpAny_execs_cons (S₃.assign (s := { s with heap := h₃, toks := t₃ }) (d := .str (cutF x)) (S₃.ev hA (Ev.sliceTo (x := x) (k := Txt.rfind x sl + 1) (Ev.name rfl) (Ev.name rfl) (fit x hx))) fun h₄ t₄ S₄ => ?_)
  refine wpAny_execs_cons (S₄.ite (s := { s with heap := h₄, toks := t₄ }) hA (Tr.and (Tr.plain (Tru.str (fit63 _ hc)) (Ev.name rfl)) fun _ => Tr.and1 (Tr.cmp Cmp.neS (Ev.name (d := .str (cutF x)) rfl) (Ev.bin (Bin.mulS (mul_ok sl _ (by decide) hc)) (Ev.name rfl) (Ev.lenS (fit63 _ hc) (Ev.name rfl))))) fun h₅ t₅ S₅ => ?_)
  unfold headF
  cases hb : (((cutF x).length : Int) != 0 && cutF x != Txt.mul sl ((cutF x).length : Int))
  · refine wpAny_execs_nil ?_
    refine wpAny_execs_cons (St.ret (P := fun a => h₀.get? a = none) ((S₅.ev (s := { s with heap := h₅, toks := t₅ }) hA (Ev.name (d := .str (cutF x)) rfl)).flat rfl) fun v h' tk k r => ?_)
    exact ⟨h', tk, rfl, S₅.k0.trans k, r⟩
  · refine wpAny_execs_cons (S₅.assign (s := { s with heap := h₅, toks := t₅ }) (S₅.ev hA (Ev.rstrip (fit _ hc) (Ev.name (d := .str (cutF x)) rfl) (Ev.name (d := .str sl) rfl))) fun h₆ t₆ S₆ => wpAny_execs_nil ?_)
    refine wpAny_execs_cons (St.ret (P := fun a => h₀.get? a = none) ((S₆.ev (s := { s with heap := h₆, toks := t₆ }) hA (Ev.name (d := .str (Txt.rstripChars (cutF x) sl)) rfl)).flat rfl) fun v h' tk k r => ?_)
    exact ⟨h', tk, rfl, S₆.k0.trans k, r⟩

theorem split_spec {x : Str} (hx : x.length ≤ 1000) : FnSpec c 2 14 [.str x] (.tuple [.str (headF x), .str (tailF x)]) := by
  have hc := cut_len x hx
  refine FnSpec.of1 (x := Str.ofString "p") (fun pm code doc v => rfl) ?_
  intro A s h₀ L a code hA S
  refine wpAny_execs_cons (S.assign (S.ev hA (Ev.callF fspath_spec (Nat.le_refl _) (.cons (Ev.name (d := .str x) rfl) .nil))) fun h₁ t₁ S₁ => ?_)
  refine wpAny_execs_cons (S₁.assign (s := { s with heap := h₁, toks := t₁ }) (S₁.ev hA (Ev.callF (getsep_spec (x := x)) (Nat.le_refl _) (.cons (Ev.name rfl) .nil))) fun h₂ t₂ S₂ => ?_)
  refine wpAny_execs_cons (S₂.assign (s := { s with heap := h₂, toks := t₂ }) (S₂.ev hA (Ev.bin Bin.addI (Ev.rfind (x := x) (y := sl) (Ev.name rfl) (Ev.name rfl)) Ev.int)) fun h₃ t₃ S₃ => ?_)
  refine wpAny_execs_cons (S₃.assign2w (s := { s with heap := h₃, toks := t₃ }) (d := .str (cutF x)) (d' := .str (tailF x)) hA (S₃.ev hA (Ev.tuple (.cons (Ev.sliceTo (x := x) (k := Txt.rfind x sl + 1) (Ev.name rfl) (Ev.name rfl) (fit x hx)) (.cons (Ev.sliceFrom (x := x) (k := Txt.rfind x sl + 1) (Ev.name rfl) (Ev.name rfl) (fit x hx)) .nil)))) fun h₄ t₄ S₄ => ?_)
  refine wpAny_execs_cons (S₄.ite (s := { s with heap := h₄, toks := t₄ }) hA (Tr.and (Tr.plain (Tru.str (fit63 _ hc)) (Ev.name rfl)) fun _ => Tr.and1 (Tr.cmp Cmp.neS (Ev.name (d := .str (cutF x)) rfl) (Ev.bin (Bin.mulS (mul_ok sl _ (by decide) hc)) (Ev.name rfl) (Ev.lenS (fit63 _ hc) (Ev.name rfl))))) fun h₅ t₅ S₅ => ?_)
  unfold headF
  cases hb : (((cutF x).length : Int) != 0 && cutF x != Txt.mul sl ((cutF x).length : Int))
  · refine wpAny_execs_nil ?_
    refine wpAny_execs_cons (St.ret (P := fun a => h₀.get? a = none) ((S₅.ev (s := { s with heap := h₅, toks := t₅ }) hA (Ev.tuple (.cons (Ev.name (d := .str (cutF x)) rfl) (.cons (Ev.name (d := .str (tailF x)) rfl) .nil)))).flat rfl) fun v h' tk k r => ?_)
    exact ⟨h', tk, rfl, S₅.k0.trans k, r⟩
  · refine wpAny_execs_cons (S₅.assign (s := { s with heap := h₅, toks := t₅ }) (S₅.ev hA (Ev.rstrip (fit _ hc) (Ev.name (d := .str (cutF x)) rfl) (Ev.name (d := .str sl) rfl))) fun h₆ t₆ S₆ => wpAny_execs_nil ?_)
    refine wpAny_execs_cons (St.ret (P := fun a => h₀.get? a = none) ((S₆.ev (s := { s with heap := h₆, toks := t₆ }) hA (Ev.tuple (.cons (Ev.name (d := .str (Txt.rstripChars (cutF x) sl)) rfl) (.cons (Ev.name (d := .str (tailF x)) rfl) .nil)))).flat rfl) fun v h' tk k r => ?_)
    exact ⟨h', tk, rfl, S₆.k0.trans k, r⟩

theorem splitroot_spec {x : Str} (hx : x.length ≤ 1000) : FnSpec c 2 15 [.str x] (.tuple [.str e0, .str (splitrootF x).1, .str (splitrootF x).2]) := by
  refine FnSpec.of1 (x := Str.ofString "p") (fun pm code doc v => rfl) ?_
  intro A s h₀ L a code hA S
  refine wpAny_execs_cons (S.assign (S.ev hA (Ev.callF fspath_spec (Nat.le_refl _) (.cons (Ev.name (d := .str x) rfl) .nil))) fun h₁ t₁ S₁ => ?_)
  refine wpAny_execs_cons (S₁.ite (s := { s with heap := h₁, toks := t₁ }) hA (Tr.isBytes (Ev.name (d := .str x) rfl)) fun h₂ t₂ S₂ => ?_)
  refine wpAny_execs_cons (S₂.assign (s := { s with heap := h₂, toks := t₂ }) (S₂.ev hA Ev.str) fun h₃ t₃ S₃ => ?_)
  refine wpAny_execs_cons (S₃.assign (s := { s with heap := h₃, toks := t₃ }) (S₃.ev hA Ev.str) fun h₄ t₄ S₄ => wpAny_execs_nil ?_)
  refine wpAny_execs_cons (S₄.ite (s := { s with heap := h₄, toks := t₄ }) hA (Tr.cmp Cmp.neS (Ev.sliceTo (x := x) (Ev.name rfl) Ev.int (fit x hx)) (Ev.name (d := .str sl) rfl)) fun h₅ t₅ S₅ => ?_)
  unfold splitrootF
  cases hb : (Txt.slice x none (some 1) != sl)
  · simp only [Bool.false_eq_true, if_false]
    refine wpAny_execs_cons (S₅.ite (s := { s with heap := h₅, toks := t₅ }) hA (Tr.or (Tr.cmp Cmp.neS (Ev.sliceBoth (x := x) (Ev.name rfl) Ev.int Ev.int (fit x hx)) (Ev.name (d := .str sl) rfl)) fun _ => Tr.or1 (Tr.cmp Cmp.eqS (Ev.sliceBoth (x := x) (Ev.name rfl) Ev.int Ev.int (fit x hx)) (Ev.name (d := .str sl) rfl))) fun h₆ t₆ S₆ => ?_)
    cases hb' : (Txt.slice x (some 1) (some 2) != sl || Txt.slice x (some 2) (some 3) == sl)
    · refine wpAny_execs_cons (St.ret (P := fun a => h₀.get? a = none) ((S₆.ev (s := { s with heap := h₆, toks := t₆ }) hA (Ev.tuple (.cons (Ev.name (d := .str e0) rfl) (.cons (Ev.sliceTo (x := x) (Ev.name rfl) Ev.int (fit x hx)) (.cons (Ev.sliceFrom (x := x) (Ev.name rfl) Ev.int (fit x hx)) .nil))))).flat rfl) fun v h' tk k r => ?_)
      exact ⟨h', tk, rfl, S₆.k0.trans k, r⟩
    · refine wpAny_execs_cons (St.ret (P := fun a => h₀.get? a = none) ((S₆.ev (s := { s with heap := h₆, toks := t₆ }) hA (Ev.tuple (.cons (Ev.name (d := .str e0) rfl) (.cons (Ev.name (d := .str sl) rfl) (.cons (Ev.sliceFrom (x := x) (Ev.name rfl) Ev.int (fit x hx)) .nil))))).flat rfl) fun v h' tk k r => ?_)
      exact ⟨h', tk, rfl, S₆.k0.trans k, r⟩
  · simp only [if_true]
    refine wpAny_execs_cons (St.ret (P := fun a => h₀.get? a = none) ((S₅.ev (s := { s with heap := h₅, toks := t₅ }) hA (Ev.tuple (.cons (Ev.name (d := .str e0) rfl) (.cons (Ev.name (d := .str e0) rfl) (.cons (Ev.name (d := .str x) rfl) .nil))))).flat rfl) fun v h' tk k r => ?_)
    exact ⟨h', tk, rfl, S₅.k0.trans k, r⟩
end
end Mine
end

section
namespace Mine
open PySem PySem.Calls PyProof.Rows

noncomputable abbrev dt : Str := Str.ofString "."
noncomputable abbrev dd : Str := Str.ofString ".."
noncomputable def stepN (root : Str) (acc : List Str) (comp : Str) : List Str :=
  if (!((comp.length : Int) != 0) || comp == dt) then acc
  else if (comp != dd || ((!((root.length : Int) != 0) && !(!acc.isEmpty)) || (!acc.isEmpty && (acc.getLast?.getD e0) == dd))) then acc ++ [comp]
  else if !acc.isEmpty then acc.dropLast else acc
noncomputable def normCs (root : Str) (cs : List Str) : List Str := cs.foldl (stepN root) []
noncomputable def normP (x : Str) : Str := (splitrootF x).1 ++ Txt.join sl (normCs (splitrootF x).1 (Txt.split (splitrootF x).2 sl))
noncomputable def normF (x : Str) : Str := if (x.length : Int) != 0 then (if ((normP x).length : Int) != 0 then normP x else dt) else dt

theorem normCs_take {root : Str} {cs : List Str} {i : Nat} {x : Str} (h : cs[i]? = some x) : normCs root (cs.take (i + 1)) = stepN root (normCs root (cs.take i)) x := by
  unfold normCs
  rw [List.take_add_one, h]
  simp
theorem stepN_le (root : Str) (acc : List Str) (x : Str) : (stepN root acc x).length ≤ acc.length + 1 := by
  unfold stepN
  split
  · omega
  · split
    · simp
    · split
      · simp; omega
      · omega
theorem normCs_le (root : Str) (cs : List Str) : (normCs root cs).length ≤ cs.length := by
  unfold normCs
  suffices ∀ acc : List Str, (cs.foldl (stepN root) acc).length ≤ acc.length + cs.length by simpa using this []
  induction cs with
  | nil => simp
  | cons x cs ih => intro acc; have h1 := ih (stepN root acc x); have h2 := stepN_le root acc x; simp only [List.foldl_cons, List.length_cons]; omega

section
variable {c : Cfg} {n : Nat}
theorem flats_str (xs : List Str) : flats (xs.map .str) = true := by
  induction xs with
  | nil => rfl
  | cons x xs ih => simp [flats, flat, ih]

theorem normpath_spec {x : Str} (hx : x.length ≤ 1000) (hr : (splitrootF x).1.length ≤ 1000) (hp : (splitrootF x).2.length ≤ 1000)
    (hz : (Builtin.Str.partsBetween (splitrootF x).2 (Builtin.Str.occurrences (splitrootF x).2 sl 0 (splitrootF x).2.length ((splitrootF x).2.length + 1)) sl.length).length ≤ sizeLine)
    (hl : (Txt.split (splitrootF x).2 sl).length ≤ 1000) (hc : ∀ y ∈ Txt.split (splitrootF x).2 sl, y.length ≤ 1000) (hj : JoinOk sl (normCs (splitrootF x).1 (Txt.split (splitrootF x).2 sl)) = true)
    (hn : (splitrootF x).1.length + (Txt.join sl (normCs (splitrootF x).1 (Txt.split (splitrootF x).2 sl))).length ≤ 1000) : FnSpec c 3 18 [.str x] (.str (normF x)) := by
  generalize hroot : (splitrootF x).1 = root at *
  generalize hrest : (splitrootF x).2 = rest at *
  refine FnSpec.of1 (x := Str.ofString "path") (fun pm code doc v => rfl) ?_
  intro A s h₀ L a code hA S
  refine wpAny_execs_cons (S.assign (S.ev hA (Ev.callF fspath_spec (by decide) (.cons (Ev.name (d := .str x) rfl) .nil))) fun h₁ t₁ S₁ => ?_)
  refine wpAny_execs_cons (S₁.ite (s := { s with heap := h₁, toks := t₁ }) hA (Tr.isBytes (Ev.name (d := .str x) rfl)) fun h₂ t₂ S₂ => ?_)
  refine wpAny_execs_cons (S₂.assign (s := { s with heap := h₂, toks := t₂ }) (S₂.ev hA Ev.str) fun h₃ t₃ S₃ => ?_)
  refine wpAny_execs_cons (S₃.assign (s := { s with heap := h₃, toks := t₃ }) (S₃.ev hA Ev.str) fun h₄ t₄ S₄ => ?_)
  refine wpAny_execs_cons (S₄.assign (s := { s with heap := h₄, toks := t₄ }) (S₄.ev hA Ev.str) fun h₅ t₅ S₅ => wpAny_execs_nil ?_)
  refine wpAny_execs_cons (S₅.ite (s := { s with heap := h₅, toks := t₅ }) hA (Tr.not (Tr.plain (Tru.str (fit63 x hx)) (Ev.name (d := .str x) rfl))) fun h₆ t₆ S₆ => ?_)
  unfold normF
  cases hb : ((x.length : Int) != 0)
  · refine wpAny_execs_cons (St.ret (P := fun a => h₀.get? a = none) ((S₆.ev (s := { s with heap := h₆, toks := t₆ }) hA (Ev.name (d := .str dt) rfl)).flat rfl) fun v h' tk k r => ?_)
    exact ⟨h', tk, rfl, S₆.k0.trans k, r⟩
  refine wpAny_execs_nil ?_
  have hsp := splitroot_spec (c := c) hx
  rw [hroot, hrest] at hsp
  refine wpAny_execs_cons (S₆.assign3 (s := { s with heap := h₆, toks := t₆ }) hA (S₆.ev hA (Ev.callF hsp (by decide) (.cons (Ev.name (d := .str x) rfl) .nil))) fun h₇ t₇ S₇ => ?_)
  refine wpAny_execs_cons (S₇.assign (s := { s with heap := h₇, toks := t₇ }) (S₇.ev hA (Ev.split (fit _ hp) (by decide) hz (Ev.name (d := .str rest) rfl) (Ev.name (d := .str sl) rfl))) fun h₈ t₈ S₈ => ?_)
  refine wpAny_execs_cons (S₈.newOwn (s := { s with heap := h₈, toks := t₈ }) fun h₉ t₉ o hoX ho0 S₉ => ?_)
  have hoL : o ≠ L := fun w => hoX (w ▸ .head _)
  have R' : ∀ h h' : Heap, (∀ b ob, b ≠ o → h.get? b = some ob → h'.get? b = some ob) → True → True := fun _ _ _ _ => trivial
  refine wpAny_execs_cons (St.forL (s := { s with heap := h₉, toks := t₉ }) (γ := fun _ => [(Str.ofString "sep", .str sl), (Str.ofString "dot", .str dt), (Str.ofString "dotdot", .str dd), (Str.ofString "initial_slashes", .str root)]) (R := fun i h => True ∧ Own o ((normCs root ((Txt.split rest sl).take i)).map .str) h)
    (ds := (Txt.split rest sl).map .str) (S₉.lessL ⟨rfl, rfl, rfl, rfl, trivial⟩) hA (S₉.ev hA (Ev.name rfl)) ?_ ?_)
  · intro i d h tk v hd S r
    obtain ⟨y, hy, rfl⟩ : ∃ y, (Txt.split rest sl)[i]? = some y ∧ d = .str y := by
      rw [List.getElem?_map] at hd
      obtain ⟨y, h1, h2⟩ := Option.map_eq_some_iff.mp hd
      exact ⟨y, h1, h2.symm⟩
    have hyl : y.length ≤ 1000 := hc y (List.mem_of_getElem? hy)
    simp only [normCs_take hy]
    generalize hacc : normCs root ((Txt.split rest sl).take i) = acc at *
    have haccl : acc.length ≤ 1000 := by
      have h1 := normCs_le root ((Txt.split rest sl).take i)
      rw [hacc] at h1
      have h2 : ((Txt.split rest sl).take i).length ≤ (Txt.split rest sl).length := List.length_take_le' ..
      omega
    refine S.bind1 (s := { s with heap := h, toks := tk }) r fun h₁ t₁ S₁ => ?_
    refine wpAny_execs_cons (S₁.ite (s := { s with heap := h₁, toks := t₁ }) hA (Tr.or (Tr.not (Tr.plain (Tru.str (fit63 y hyl)) (Ev.name (d := .str y) rfl))) fun _ => Tr.or1 (Tr.cmp Cmp.eqS (Ev.name (d := .str y) rfl) (Ev.name (d := .str dt) rfl))) fun h₂ t₂ S₂ => ?_)
    unfold stepN
    cases hb1 : (!((y.length : Int) != 0) || y == dt)
    · refine wpAny_execs_nil ?_
      have hlast : acc.isEmpty = false → (acc.map PyData.str).getLast? = some (.str (acc.getLast?.getD e0)) := fun he => by
        rw [List.getLast?_map]
        cases hq : acc.getLast? with
        | none => simp at hq; subst hq; simp at he
        | some z => rfl
      have hemp : ((acc.map PyData.str).isEmpty) = acc.isEmpty := by simp
      have hml : ((acc.map PyData.str).length : Int) < 2 ^ 63 := by simp; omega
      refine wpAny_execs_cons (S₂.iteO (s := { s with heap := h₂, toks := t₂ }) (x := Str.ofString "new_comps") (b := (y != dd || ((!((root.length : Int) != 0) && !(!acc.isEmpty)) || (!acc.isEmpty && (acc.getLast?.getD e0) == dd)))) (.head _) hA ?_ fun h₃ t₃ S₃ => ?_)
      · refine Tr.or (Tr.cmp Cmp.neS (Ev.name (d := .str y) rfl) (Ev.name (d := .str dd) rfl)) fun _ => Tr.or (Tr.and (Tr.not (Tr.plain (Tru.str (fit63 root hr)) (Ev.name (d := .str root) rfl))) fun _ => Tr.and1 (Tr.not (hemp ▸ Tr.plain (Tru.list hml) (Ev.name rfl)))) fun _ => Tr.or1 (Tr.and (hemp ▸ Tr.plain (Tru.list hml) (Ev.name rfl)) fun he => Tr.and1 (Tr.cmp Cmp.eqS (Ev.last (Ev.name rfl) (hlast (by simpa using he))) (Ev.name (d := .str dd) rfl)))
      cases hb2 : (y != dd || ((!((root.length : Int) != 0) && !(!acc.isEmpty)) || (!acc.isEmpty && (acc.getLast?.getD e0) == dd)))
      · refine wpAny_execs_cons (S₃.iteO (s := { s with heap := h₃, toks := t₃ }) (x := Str.ofString "new_comps") (b := !acc.isEmpty) (.head _) hA (hemp ▸ Tr.plain (Tru.list hml) (Ev.name rfl)) fun h₄ t₄ S₄ => ?_)
        skip
        cases hb3 : acc.isEmpty
        · skip
          have hsp : acc.map PyData.str = acc.dropLast.map PyData.str ++ [.str (acc.getLast?.getD e0)] := by
            have hne : acc ≠ [] := fun e => by subst e; simp at hb3
            conv => lhs; rw [← List.dropLast_concat_getLast hne]
            simp [List.getLast?_eq_some_getLast hne]
          rw [hsp] at S₄
          refine wpAny_execs_cons (wpAny_Expr (pop_call (s := { s with heap := h₄, toks := t₄ }) S₄ (.head _) (.head _) hoL (by simp; omega) (fun v h' rv S₅ => ?_) Stb.true R'))
          obtain ⟨u, rfl⟩ := rv.of_str
          refine wpAny_execs_nil (wpAny_execs_nil (wpAny_execs_nil ?_))
          exact ⟨h', t₄, rfl, S₅.lessL ⟨rfl, rfl, rfl, rfl, trivial⟩⟩
        · refine wpAny_execs_nil (wpAny_execs_nil (wpAny_execs_nil ?_))
          exact ⟨h₄, t₄, rfl, S₄.lessL ⟨rfl, rfl, rfl, rfl, trivial⟩⟩
      · skip
        refine wpAny_execs_cons (S₃.append (s := { s with heap := h₃, toks := t₃ }) (.head _) (.head _) hoL (S₃.ev hA (Ev.name (d := .str y) rfl)) rfl (by simpa using haccl) (fun h₄ t₄ S₄ => wpAny_execs_nil (wpAny_execs_nil ?_)) Stb.true R')
        refine ⟨h₄, t₄, rfl, St.lessL (S₄.res' (Stb.true.and Own.stb) ?_) ⟨rfl, rfl, rfl, rfl, trivial⟩⟩
        simpa using S₄.res
    · refine wpAny_execs_cons (fun _ _ _ => ?_)
      exact ⟨h₂, t₂, rfl, S₂.lessL ⟨rfl, rfl, rfl, rfl, trivial⟩⟩
  · intro h₁₀ t₁₀ S₁₀
    have htk : (Txt.split rest sl).take ((Txt.split rest sl).map PyData.str).length = Txt.split rest sl := by rw [List.length_map, List.take_length]
    simp only [htk] at S₁₀
    generalize hcs : normCs root (Txt.split rest sl) = cs at *
    refine wpAny_execs_cons (wpAny_Assign_Name (wpAny_Name (S₁₀.raw (x := Str.ofString "new_comps") (.head _) _ _ _ _ (Kp.refl _) (S₁₀.bindRaw (s := { s with heap := h₁₀, toks := t₁₀ }) (fun h₁₁ t₁₁ S₁₁ => ?_) rfl rfl rfl))))
    refine wpAny_execs_cons (S₁₁.assign (s := { s with heap := h₁₁, toks := t₁₁ }) ((S₁₁.evO (x := Str.ofString "comps") (.head _) hA (Ev.bin (Bin.addS (by rw [sizeLine_eq]; omega)) (Ev.name (d := .str root) rfl) (Ev.join hj (Ev.name (d := .str sl) rfl) (Ev.name rfl)))).flat rfl) fun h₁₂ t₁₂ S₁₂ => ?_)
    have hP : normP x = root ++ Txt.join sl cs := by unfold normP; rw [hroot, hrest, hcs]
    have hlen : (root ++ Txt.join sl cs).length ≤ 1000 := by rw [Str.length_append]; exact hn
    rw [hP]
    refine wpAny_execs_cons (St.ret (P := fun a => h₀.get? a = none) ((S₁₂.ev (s := { s with heap := h₁₂, toks := t₁₂ }) hA (Ev.or2 (Ev.name (d := .str (root ++ Txt.join sl cs)) rfl) (Tru.str (fit63 _ hlen)) fun _ => Ev.name (d := .str dt) rfl)).flat (by split <;> rfl)) fun v h' tk k r => ?_)
    refine ⟨h', tk, rfl, S₁₂.k0.trans k, ?_⟩
    have e : (if (((root ++ Txt.join sl cs).length : Int) != 0) = true then PyData.str (root ++ Txt.join sl cs) else .str dt) = .str (if (((root ++ Txt.join sl cs).length : Int) != 0) = true then root ++ Txt.join sl cs else dt) := by split <;> rfl
    rw [e] at r
    exact r
end
end Mine
end

section
namespace Mine
open PySem PySem.Calls PyProof.Rows

/-! runs: a sign's number and a count -/
noncomputable abbrev Run := Nat × Nat
noncomputable def ch (k : Nat) : Str := ⟨#[k]⟩
noncomputable def dNat (x : Nat) : PyData := .int (x : Int)
noncomputable def dRun (r : Run) : PyData := .tuple [.str (ch r.1), .int (r.2 : Int)]
noncomputable def signOf (x : Nat) : Nat := match x % 8 with | 0 => 47 | 1 => 46 | 2 => 47 | 3 => 46 | 4 => 47 | 5 => 61 | 6 => 46 | _ => 97
noncomputable def cntOf (x : Nat) : Nat := 1 + x / 8 % 4
noncomputable def stepR (acc : List Run) (x : Nat) : List Run := if (acc.isEmpty || (acc.getLast?.getD (0, 0)).1 != signOf x) then acc ++ [(signOf x, cntOf x)] else acc
noncomputable def runsOf (l : List Nat) : List Run := l.foldl stepR []

noncomputable def SignOk (k : Nat) : Prop := k = 47 ∨ k = 46 ∨ k = 61 ∨ k = 97
noncomputable def RunOk (r : Run) : Prop := SignOk r.1 ∧ 1 ≤ r.2 ∧ r.2 ≤ 4
theorem signOf_ok (x : Nat) : SignOk (signOf x) := by unfold signOf SignOk; split <;> simp
theorem cntOf_ok (x : Nat) : 1 ≤ cntOf x ∧ cntOf x ≤ 4 := by unfold cntOf; omega
theorem stepR_ok {acc : List Run} {x : Nat} (h : ∀ r ∈ acc, RunOk r) : ∀ r ∈ stepR acc x, RunOk r := by
  intro r hr
  unfold stepR at hr
  split at hr
  · rcases List.mem_append.mp hr with hr | hr
    · exact h r hr
    · simp at hr; subst hr; exact ⟨signOf_ok x, cntOf_ok x⟩
  · exact h r hr
theorem foldR_ok : ∀ (l : List Nat) (acc : List Run), (∀ r ∈ acc, RunOk r) → ∀ r ∈ l.foldl stepR acc, RunOk r
  | [], _, h => h
  | x :: l, acc, h => foldR_ok l (stepR acc x) (stepR_ok h)
theorem runsOf_ok (l : List Nat) : ∀ r ∈ runsOf l, RunOk r := foldR_ok l [] (by simp)
theorem foldR_len : ∀ (l : List Nat) (acc : List Run), (l.foldl stepR acc).length ≤ acc.length + l.length
  | [], _ => by simp
  | x :: l, acc => by
    have h1 := foldR_len l (stepR acc x)
    have h2 : (stepR acc x).length ≤ acc.length + 1 := by unfold stepR; split <;> simp
    simp only [List.foldl_cons, List.length_cons]; omega
theorem runsOf_len (l : List Nat) : (runsOf l).length ≤ l.length := by have := foldR_len l []; simpa [runsOf] using this
theorem runsOf_take {l : List Nat} {i x : Nat} (h : l[i]? = some x) : runsOf (l.take (i + 1)) = stepR (runsOf (l.take i)) x := by
  unfold runsOf
  rw [List.take_add_one, h]; simp

theorem ch_ok {k : Nat} (h : SignOk k) : PyData.strOk (ch k) = true := by
  unfold PyData.strOk ch
  rcases h with rfl | rfl | rfl | rfl <;> simp
theorem lay_runs : ∀ {l : List Run}, (∀ r ∈ l, RunOk r) → PyData.canLayAll0 (l.map dRun) = true ∧ PyData.depthAll (l.map dRun) ≤ 1
  | [], _ => by simp [PyData.canLayAll0, PyData.depthAll]
  | r :: l, h => by
    have ih := lay_runs (l := l) fun q hq => h q (.tail _ hq)
    have hr := ch_ok (h r (.head _)).1
    simp only [List.map_cons, PyData.canLayAll0, PyData.depthAll, dRun, PyData.canLay0, PyData.depth, hr, ih.1]
    refine ⟨by simp, ?_⟩
    have := ih.2
    omega
theorem shaped_list {xs : List PyData} (h : PyData.canLayAll0 xs = true) (hd : PyData.depthAll xs ≤ 50) : SeqAt.shaped (.list xs) = true := by
  unfold SeqAt.shaped
  simp only [PyData.canLay0, PyData.depth, h, Bool.true_and]
  exact decide_eq_true (by omega)
theorem shaped_nil : SeqAt.shaped (.list []) = true := by decide
theorem eqv_nil (xs : List PyData) : PyData.eqv (.list xs) (.list []) = xs.isEmpty := by cases xs <;> simp [PyData.eqv, PyData.eqvAll]
theorem flats_runs (l : List Run) : flats (l.map dRun) = true := by
  induction l with
  | nil => rfl
  | cons r l ih => simp [flats, flat, dRun, ih]

theorem sign_at (x : Nat) : (Str.ofString "/././=.a").cps[((x : Int).fmod 8).toNat]? = some (signOf x) := by
  have e : ((x : Int).fmod 8).toNat = x % 8 := by
    rw [Int.fmod_eq_emod_of_nonneg _ (by omega)]; omega
  rw [e]
  have key : ∀ j : Nat, j < 8 → (Str.ofString "/././=.a").cps[j]? = some (signOf j) := by decide
  have := key (x % 8) (Nat.mod_lt _ (by decide))
  rw [this]
  unfold signOf
  simp
theorem cnt_at (x : Nat) : 1 + ((x : Int).fdiv 8).fmod 4 = ((cntOf x : Nat) : Int) := by
  rw [Int.fdiv_eq_ediv_of_nonneg _ (by omega), Int.fmod_eq_emod_of_nonneg _ (by omega)]
  unfold cntOf; omega
theorem last_map {α β : Type} (f : α → β) {l : List α} (h : l.isEmpty = false) (d : α) : (l.map f).getLast? = some (f (l.getLast?.getD d)) := by
  rw [List.getLast?_map]
  cases hq : l.getLast? with
  | none => simp at hq; subst hq; simp at h
  | some z => rfl

section
variable {c : Cfg} {n : Nat}
theorem own_ret {env : Env} {X : List Addr} {h₀ g : Heap} {γ : List (Str × PyData)} {fx : List (Str × Value)} {R : Heap → Prop} {s : Shared} {A : Around} {a : Addr} {ds : List PyData} {x : Str} {p pos : Pos} {Q : Flow → Shared → Prop} (S : St c env X h₀ g s.heap γ fx (fun h => R h ∧ Own a ds h)) (hm : (x, .ref a) ∈ fx) (h0 : h₀.get? a = none)
    (k : Kp h₀ s.heap → Rd s.heap (fun a => h₀.get? a = none) (.ref a) (.list ds) → Q (.ret (.ref a)) s) (hd : (x == ("__debug__" : Str)) = false := by decide) : wpAny (model c.prog c.w) A (exec (.Return (some (.Name x p)) pos) env) Q F0 s :=
  wpAny_Return_some (wpAny_Name (S.raw hm _ _ _ _ (Kp.refl _) (k S.k0 (S.res.2.rd h0))) hd)

theorem runs_spec {l : List Nat} (hl : l.length ≤ 100) : FnSpec c 1 72 [.list (l.map dNat)] (.list ((runsOf l).map dRun)) := by
  refine FnSpec.of1 (x := Str.ofString "draws") (fun pm code doc v => rfl) ?_
  intro A s h₀ L a code hA S
  refine wpAny_execs_cons (S.newOwn fun h₁ t₁ o hoX ho0 S₁ => ?_)
  have hoL : o ≠ L := fun w => hoX (w ▸ .head _)
  have R' : ∀ h h' : Heap, (∀ b ob, b ≠ o → h.get? b = some ob → h'.get? b = some ob) → True → True := fun _ _ _ _ => trivial
  refine wpAny_execs_cons (St.forL (s := { s with heap := h₁, toks := t₁ }) (γ := fun _ => []) (R := fun i h => True ∧ Own o ((runsOf (l.take i)).map dRun) h) (ds := l.map dNat) (S₁.lessL trivial) hA (S₁.ev hA (Ev.name rfl)) ?_ ?_)
  · intro i d h tk v hd S r
    obtain ⟨x, hx, rfl⟩ : ∃ x, l[i]? = some x ∧ d = .int (x : Int) := by
      rw [List.getElem?_map] at hd
      obtain ⟨y, h1, h2⟩ := Option.map_eq_some_iff.mp hd
      exact ⟨y, h1, h2.symm⟩
    simp only [runsOf_take hx]
    have hok := runsOf_ok (l.take i)
    have hln := runsOf_len (l.take i)
    have hln2 : (l.take i).length ≤ l.length := List.length_take_le' ..
    generalize runsOf (l.take i) = acc at *
    refine S.bind1 (s := { s with heap := h, toks := tk }) r fun h₁ t₁ S₁ => ?_
    refine wpAny_execs_cons (S₁.assign (s := { s with heap := h₁, toks := t₁ }) (S₁.ev hA (Ev.itemS Ev.str (Ev.bin (Bin.modI (by decide)) (Ev.name (d := .int (x : Int)) rfl) Ev.int) (by rw [Int.fmod_eq_emod_of_nonneg _ (by omega)]; omega) (by rw [Int.fmod_eq_emod_of_nonneg _ (by omega)]; omega) (sign_at x))) fun h₂ t₂ S₂ => ?_)
    refine wpAny_execs_cons (S₂.iteO (s := { s with heap := h₂, toks := t₂ }) (x := Str.ofString "runs") (b := (acc.isEmpty || ch (acc.getLast?.getD (0, 0)).1 != ch (signOf x))) (.head _) hA ?_ fun h₃ t₃ S₃ => ?_)
    · have hsh := lay_runs hok
      have e1 : PyData.eqv (.list (acc.map dRun)) (.list []) = acc.isEmpty := by rw [eqv_nil]; simp
      refine Tr.or (e1 ▸ Tr.cmp (Cmp.eqD (shaped_list hsh.1 (by have := hsh.2; omega)) shaped_nil) (Ev.name rfl) (Ev.list .nil)) fun he => Tr.or1 (Tr.cmp Cmp.neS (Ev.itemT (Ev.last (Ev.name rfl) (last_map dRun he (0, 0))) Ev.int (by decide) (by decide) rfl) (Ev.name (d := .str (ch (signOf x))) rfl))
    have e2 : (ch (acc.getLast?.getD (0, 0)).1 != ch (signOf x)) = ((acc.getLast?.getD (0, 0)).1 != signOf x) := by
      rw [Bool.eq_iff_iff]; simp [ch]
    rw [e2]
    unfold stepR
    cases hb : (acc.isEmpty || (acc.getLast?.getD (0, 0)).1 != signOf x)
    · refine wpAny_execs_nil (wpAny_execs_nil ?_)
      exact ⟨h₃, t₃, rfl, S₃.lessL trivial⟩
    · simp only [if_true]
      refine wpAny_execs_cons (S₃.append (s := { s with heap := h₃, toks := t₃ }) (.head _) (.head _) hoL (S₃.ev hA (Ev.tuple (.cons (Ev.name (d := .str (ch (signOf x))) rfl) (.cons (Ev.bin Bin.addI Ev.int (Ev.bin (Bin.modI (by decide)) (Ev.bin (Bin.divI (by decide) (by decide)) (Ev.name (d := .int (x : Int)) rfl) Ev.int) Ev.int)) .nil)))) rfl (by simp; omega) (fun h₄ t₄ S₄ => wpAny_execs_nil (wpAny_execs_nil ?_)) Stb.true R')
      refine ⟨h₄, t₄, rfl, St.lessL (S₄.res' (Stb.true.and Own.stb) ?_) trivial⟩
      have := S₄.res
      rw [cnt_at] at this
      simpa [dRun] using this
  · intro h' tk S'
    have htk : l.take (l.map dNat).length = l := by rw [List.length_map, List.take_length]
    simp only [htk] at S'
    refine wpAny_execs_cons (own_ret (s := { s with heap := h', toks := tk }) S' (.head _) ho0 fun k r => ?_)
    exact ⟨h', tk, rfl, k, r⟩
end
end Mine
end

section
namespace Mine
open PySem PySem.Calls PyProof.Rows

/-! tokens: a number and a text -/
noncomputable abbrev Tk := Nat × Str
noncomputable def dTk (t : Tk) : PyData := .tuple [.int (t.1 : Int), .str t.2]
noncomputable def isSl (k : Nat) : Bool := k == 17 || k == 39 || k == 47 || k == 48
noncomputable abbrev sl2 : Str := Str.ofString "//"
noncomputable def rootF : List Tk → Str
  | [] => e0
  | t :: r => if !isSl t.1 then e0 else if (t.1 == 48 || (t.1 == 47 && !isSl ((r.head?.getD (0, e0)).1))) then sl2 else sl
theorem eqv_nat (j k : Nat) : PyData.eqv (.int (j : Int)) (.int (k : Int)) = (k == j) := by
  unfold PyData.eqv
  by_cases h : k = j
  · subst h; simp
  · have h1 : (k == j) = false := by simpa using h
    rw [h1]
    simpa using fun w => h (Int.ofNat.inj w).symm
theorem any_sl (k : Nat) : ([PyData.int 17, .int 39, .int 47, .int 48].any fun y => PyData.eqv y (.int (k : Int))) = isSl k := by
  show (PyData.eqv (.int ((17 : Nat) : Int)) (.int (k : Int)) || (PyData.eqv (.int ((39 : Nat) : Int)) (.int (k : Int)) || (PyData.eqv (.int ((47 : Nat) : Int)) (.int (k : Int)) || (PyData.eqv (.int ((48 : Nat) : Int)) (.int (k : Int)) || false)))) = (k == 17 || k == 39 || k == 47 || k == 48)
  rw [eqv_nat, eqv_nat, eqv_nat, eqv_nat, Bool.or_false, Bool.or_assoc, Bool.or_assoc]
theorem beq_nat (k j : Nat) : (((k : Nat) : Int) == (j : Int)) = (k == j) := by rw [Bool.eq_iff_iff]; simp; omega

section
variable {c : Cfg} {n : Nat}
theorem iseof_spec {x : Nat} : FnSpec c 1 70 [.int (x : Int)] (.bool (x == 0)) := by
  refine FnSpec.of1 (x := Str.ofString "x") (fun pm code doc v => rfl) ?_
  intro A s h₀ L a code hA S
  refine wpAny_execs_cons (St.ret (P := fun a => h₀.get? a = none) ((S.ev hA (Ev.cmp Cmp.eqI (Ev.name (d := .int (x : Int)) rfl) Ev.em)).flat rfl) fun v h' tk k r => ?_)
  refine ⟨h', tk, rfl, S.k0.trans k, ?_⟩
  rw [show ((x : Int) == 0) = (x == 0) from beq_nat x 0] at r
  exact r

theorem root_spec {t : Tk} {r : List Tk} (hr : t.1 = 47 → r ≠ []) : FnSpec c 1 75 [.list ((t :: r).map dTk)] (.str (rootF (t :: r))) := by
  refine FnSpec.of1 (x := Str.ofString "read") (fun pm code doc v => rfl) ?_
  intro A s h₀ L a code hA S
  refine wpAny_execs_cons (S.assign (S.ev hA (Ev.tuple (.cons Ev.int (.cons Ev.int (.cons Ev.int (.cons Ev.int .nil)))))) fun h₁ t₁ S₁ => ?_)
  refine wpAny_execs_cons (S₁.ite (s := { s with heap := h₁, toks := t₁ }) (b := !isSl t.1) hA (any_sl t.1 ▸ Tr.cmp (Cmp.notInT rfl (by simp [PyData.depth]) rfl) (Ev.itemT (d := .int (t.1 : Int)) (Ev.itemL (d := dTk t) (Ev.name rfl) Ev.int (by decide) (by decide) rfl) Ev.int (by decide) (by decide) rfl) (Ev.name rfl)) fun h₂ t₂ S₂ => ?_)
  rw [show rootF (t :: r) = (if !isSl t.1 then e0 else if (t.1 == 48 || (t.1 == 47 && !isSl ((r.head?.getD (0, e0)).1))) then sl2 else sl) from rfl]
  cases hb : isSl t.1
  · refine wpAny_execs_cons (St.ret (P := fun a => h₀.get? a = none) ((S₂.ev (s := { s with heap := h₂, toks := t₂ }) hA Ev.str).flat rfl) fun v h' tk k r => ?_)
    exact ⟨h', tk, rfl, S₂.k0.trans k, r⟩
  · refine wpAny_execs_nil ?_
    refine wpAny_execs_cons (S₂.ite (s := { s with heap := h₂, toks := t₂ }) (b := (t.1 == 48 || (t.1 == 47 && !isSl ((r.head?.getD (0, e0)).1)))) hA ?_ fun h₃ t₃ S₃ => ?_)
    · have e48 : ((t.1 : Int) == 48) = (t.1 == 48) := beq_nat t.1 48
      have e47 : ((t.1 : Int) == 47) = (t.1 == 47) := beq_nat t.1 47
      refine Tr.or (e48 ▸ Tr.cmp Cmp.eqI (Ev.itemT (d := .int (t.1 : Int)) (Ev.itemL (d := dTk t) (Ev.name rfl) Ev.int (by decide) (by decide) rfl) Ev.int (by decide) (by decide) rfl) Ev.int) fun _ =>
        Tr.or1 (Tr.and (e47 ▸ Tr.cmp Cmp.eqI (Ev.itemT (d := .int (t.1 : Int)) (Ev.itemL (d := dTk t) (Ev.name rfl) Ev.int (by decide) (by decide) rfl) Ev.int (by decide) (by decide) rfl) Ev.int) fun h47 => ?_)
      obtain ⟨u, r', rfl⟩ : ∃ u r', r = u :: r' := by
        cases r with
        | nil => exact absurd rfl (hr (by simpa using h47))
        | cons u r' => exact ⟨u, r', rfl⟩
      exact Tr.and1 (any_sl u.1 ▸ Tr.cmp (Cmp.notInT rfl (by simp [PyData.depth]) rfl) (Ev.itemT (d := .int (u.1 : Int)) (Ev.itemL (d := dTk u) (Ev.name rfl) Ev.int (by decide) (by decide) rfl) Ev.int (by decide) (by decide) rfl) (Ev.name rfl))
    cases hb2 : (t.1 == 48 || (t.1 == 47 && !isSl ((r.head?.getD (0, e0)).1)))
    · refine wpAny_execs_nil ?_
      refine wpAny_execs_cons (St.ret (P := fun a => h₀.get? a = none) ((S₃.ev (s := { s with heap := h₃, toks := t₃ }) hA Ev.str).flat rfl) fun v h' tk k r => ?_)
      exact ⟨h', tk, rfl, S₃.k0.trans k, r⟩
    · refine wpAny_execs_cons (St.ret (P := fun a => h₀.get? a = none) ((S₃.ev (s := { s with heap := h₃, toks := t₃ }) hA Ev.str).flat rfl) fun v h' tk k r => ?_)
      exact ⟨h', tk, rfl, S₃.k0.trans k, r⟩
end

/-! what the runs tell -/
noncomputable abbrev eq1 : Str := Str.ofString "="
noncomputable def mergeT (told : List Tk) : List Tk := match told.getLast? with
  | some (k, wd) => told.dropLast ++ [(if k = 17 then 39 else 48, wd ++ eq1)]
  | none => told
noncomputable def meets (told : List Tk) (sign : Nat) : Bool := sign == 61 && (!told.isEmpty && ((told.getLast?.getD (0, e0)).1 == 17 || (told.getLast?.getD (0, e0)).1 == 47))
noncomputable def toksOf (sign left : Nat) : List Tk :=
  if sign = 97 then [(1, Txt.mul (ch 97) (left : Int))]
  else if sign = 47 then List.replicate (left / 2) (47, Txt.mul (ch 47) 2) ++ List.replicate (left % 2) (17, ch 47)
  else if sign = 46 then List.replicate (left / 3) (52, Txt.mul (ch 46) 3) ++ List.replicate (left % 3) (23, ch 46)
  else List.replicate (left / 2) (27, Txt.mul (ch 61) 2) ++ List.replicate (left % 2) (22, ch 61)
noncomputable def stepT (told : List Tk) (r : Run) : List Tk :=
  if meets told r.1 then mergeT told ++ toksOf r.1 (r.2 - 1) else told ++ toksOf r.1 r.2
noncomputable def toldOf (runs : List Run) : List Tk := runs.foldl stepT []
theorem toldOf_take {l : List Run} {i : Nat} {r : Run} (h : l[i]? = some r) : toldOf (l.take (i + 1)) = stepT (toldOf (l.take i)) r := by
  unfold toldOf
  rw [List.take_add_one, h]; simp
theorem toksOf_len (sign left : Nat) (h : left ≤ 4) : (toksOf sign left).length ≤ 4 := by
  unfold toksOf
  split
  · simp
  · split
    · simp; omega
    · split
      · simp; omega
      · simp; omega
theorem mergeT_len (t : List Tk) : (mergeT t).length = t.length := by
  unfold mergeT
  split
  · rename_i h
    have : t ≠ [] := fun e => by subst e; simp at h
    have := List.length_pos_iff.mpr this
    simp; omega
  · rfl
theorem stepT_len {t : List Tk} {r : Run} (h : r.2 ≤ 4) : (stepT t r).length ≤ t.length + 4 := by
  unfold stepT
  split
  · have := toksOf_len r.1 (r.2 - 1) (by omega); rw [List.length_append, mergeT_len]; omega
  · have := toksOf_len r.1 r.2 h; rw [List.length_append]; omega
theorem foldT_len : ∀ (l : List Run) (t : List Tk), (∀ r ∈ l, RunOk r) → (l.foldl stepT t).length ≤ t.length + 4 * l.length
  | [], _, _ => by simp
  | r :: l, t, h => by
    have h1 := foldT_len l (stepT t r) fun q hq => h q (.tail _ hq)
    have h2 := stepT_len (t := t) (h r (.head _)).2.2
    simp only [List.foldl_cons, List.length_cons]; omega
/-- texts of tokens stay short and plain -/
noncomputable def TkOk (m : Nat) (t : Tk) : Prop := t.2.length ≤ m ∧ PyData.strOk t.2 = true ∧ t.1 ≤ 1000
theorem strOk_append {x y : Str} (hx : PyData.strOk x = true) (hy : PyData.strOk y = true) : PyData.strOk (x ++ y) = true := by
  unfold PyData.strOk at *
  show (x.cps ++ y.cps).all _ = true
  simp only [Array.all_append, hx, hy, Bool.and_self]
theorem flats_toks (l : List Tk) : flats (l.map dTk) = true := by
  induction l with
  | nil => rfl
  | cons r l ih => simp [flats, flat, dTk, ih]
theorem mul_ch (k : Nat) (j : Nat) : Txt.mul (ch k) (j : Int) = ⟨(List.replicate j k).toArray⟩ := by
  unfold Txt.mul ch
  have hf : ∀ (m : Nat) (acc : Array Nat), (List.replicate m (#[k] : Array Nat)).foldl (· ++ ·) acc = acc ++ (List.replicate m k).toArray := by
    intro m
    induction m with
    | zero => intro acc; simp
    | succ m ih => intro acc; rw [List.replicate_succ, List.foldl_cons, ih, List.replicate_succ]; apply Array.ext'; simp
  by_cases h1 : (j : Int) < 1
  · have : j = 0 := by omega
    subst this; rfl
  · rw [if_neg h1]
    split
    · rename_i h
      have hj : j = 1 := by
        simp [Str.length] at h; omega
      subst hj; rfl
    · have e : (j : Int).toNat = j := by omega
      rw [e, hf]; simp
theorem strOk_mul (k j : Nat) (hk : k < 1000) : PyData.strOk (Txt.mul (ch k) (j : Int)) = true := by
  rw [mul_ch]
  unfold PyData.strOk
  simp only [Array.all_eq_true]
  intro i hi
  simp
  omega
theorem toksOf_ok {sign left : Nat} (hs : SignOk sign) (hl : left ≤ 4) : ∀ t ∈ toksOf sign left, TkOk 10 t := by
  have m2 : ∀ k j : Nat, (Txt.mul (ch k) (j : Int)).length = j := fun k j => by rw [mul_ch]; simp [Str.length]
  intro t ht
  have hc := ch_ok hs
  have hsk : sign < 1000 := by rcases hs with rfl | rfl | rfl | rfl <;> decide
  have one : ∀ k, (ch k).length = 1 := fun k => rfl
  have go : ∀ (n n' a b k j : Nat), a ≤ 1000 → b ≤ 1000 → j ≤ 4 → k < 1000 → PyData.strOk (ch k) = true → t ∈ List.replicate n (a, Txt.mul (ch k) (j : Int)) ++ List.replicate n' (b, ch k) → TkOk 10 t := by
    intro n n' a b k j ha hb hj hk hck hm
    rcases List.mem_append.mp hm with hm | hm
    · rw [List.eq_of_mem_replicate hm]; exact ⟨by rw [m2]; omega, strOk_mul k j hk, ha⟩
    · rw [List.eq_of_mem_replicate hm]; exact ⟨by rw [one]; decide, hck, hb⟩
  unfold toksOf at ht
  split at ht
  · simp at ht; subst ht; exact ⟨by rw [m2]; omega, strOk_mul _ _ (by decide), by show 1 ≤ 1000; decide⟩
  · split at ht
    · exact go _ _ 47 17 47 2 (by decide) (by decide) (by decide) (by decide) (ch_ok (.inl rfl)) ht
    · split at ht
      · exact go _ _ 52 23 46 3 (by decide) (by decide) (by decide) (by decide) (ch_ok (.inr (.inl rfl))) ht
      · exact go _ _ 27 22 61 2 (by decide) (by decide) (by decide) (by decide) (ch_ok (.inr (.inr (.inl rfl)))) ht
theorem TkOk.le {m k : Nat} {t : Tk} (h : TkOk m t) (hk : m ≤ k) : TkOk k t := ⟨Nat.le_trans h.1 hk, h.2⟩
theorem stepT_ok {m : Nat} {t : List Tk} {r : Run} (hm : 10 ≤ m) (hr : RunOk r) (h : ∀ q ∈ t, TkOk m q) : ∀ q ∈ stepT t r, TkOk (m + 1) q := by
  intro q hq
  unfold stepT at hq
  split at hq
  · rcases List.mem_append.mp hq with hq | hq
    · unfold mergeT at hq
      split at hq
      · rename_i k wd hl
        rcases List.mem_append.mp hq with hq | hq
        · exact (h q (List.dropLast_subset _ hq)).le (by omega)
        · simp at hq; subst hq
          obtain ⟨h1, h2, h3⟩ := h (k, wd) (List.mem_of_getLast? hl)
          refine ⟨?_, strOk_append h2 (by decide +kernel), by simp only; split <;> omega⟩
          rw [Str.length_append]
          have : eq1.length = 1 := by decide
          simp only at h1 ⊢
          omega
      · exact (h q hq).le (by omega)
    · exact (toksOf_ok hr.1 (by have := hr.2.2; omega) q hq).le (by omega)
  · rcases List.mem_append.mp hq with hq | hq
    · exact (h q hq).le (by omega)
    · exact (toksOf_ok hr.1 hr.2.2 q hq).le (by omega)
theorem foldT_ok : ∀ (l : List Run) (t : List Tk) (m : Nat), 10 ≤ m → (∀ r ∈ l, RunOk r) → (∀ q ∈ t, TkOk m q) → ∀ q ∈ l.foldl stepT t, TkOk (m + l.length) q
  | [], _, m, _, _, h => by simpa using h
  | r :: l, t, m, hm, hr, h => by
    have := foldT_ok l (stepT t r) (m + 1) (by omega) (fun q hq => hr q (.tail _ hq)) (stepT_ok hm (hr r (.head _)) h)
    simpa [Nat.add_assoc, Nat.add_comm 1] using this
theorem lay_toks : ∀ {l : List Tk} {m : Nat}, (∀ r ∈ l, TkOk m r) → PyData.canLayAll0 (l.map dTk) = true ∧ PyData.depthAll (l.map dTk) ≤ 1
  | [], _, _ => by simp [PyData.canLayAll0, PyData.depthAll]
  | r :: l, m, h => by
    have ih := lay_toks (l := l) (m := m) fun q hq => h q (.tail _ hq)
    have hr := (h r (.head _)).2.1
    simp only [List.map_cons, PyData.canLayAll0, PyData.depthAll, dTk, PyData.canLay0, PyData.depth, hr, ih.1]
    refine ⟨by simp, ?_⟩
    have := ih.2
    omega
end Mine
end

section
namespace Mine
open PySem PySem.Calls PyProof.Rows

theorem Ev.at {c : Cfg} {n : Nat} {env : Env} {γ : List (Str × PyData)} {e : Expr} {d : PyData} {A : Around} {s : Shared} {P : Addr → Prop} (h : Ev c n env γ e d) (hA : AOk n A) (X : Cx c env P s.heap γ) : EvAt c A s env P e d := fun Q q => h A s P Q hA X q



theorem ch_beq (k j : Nat) : (ch k == ch j) = (k == j) := by rw [Bool.eq_iff_iff]; simp [ch]
theorem s_eq : Str.ofString "=" = ch 61 := by decide
theorem s_a : Str.ofString "a" = ch 97 := by decide
theorem s_sl : Str.ofString "/" = ch 47 := by decide
theorem s_dt : Str.ofString "." = ch 46 := by decide
theorem any_17_47 (k : Nat) : ([PyData.int 17, .int 47].any fun y => PyData.eqv y (.int (k : Int))) = (k == 17 || k == 47) := by
  show (PyData.eqv (.int ((17 : Nat) : Int)) (.int (k : Int)) || (PyData.eqv (.int ((47 : Nat) : Int)) (.int (k : Int)) || false)) = _
  rw [eqv_nat, eqv_nat, Bool.or_false]
theorem any_39_48 (k : Nat) : ([PyData.int 39, .int 48].any fun y => PyData.eqv y (.int (k : Int))) = (k == 39 || k == 48) := by
  show (PyData.eqv (.int ((39 : Nat) : Int)) (.int (k : Int)) || (PyData.eqv (.int ((48 : Nat) : Int)) (.int (k : Int)) || false)) = _
  rw [eqv_nat, eqv_nat, Bool.or_false]
theorem rep_one {α β : Type} (f : α → β) (d : α) (k : Nat) : (List.replicate k [f d]).flatten = (List.replicate k d).map f := by
  rw [lm_rep_flat_one, List.map_replicate]
theorem split_last {l : List Tk} (h : l.isEmpty = false) : l = l.dropLast ++ [l.getLast?.getD (0, e0)] := by
  have hne : l ≠ [] := fun e => by subst e; simp at h
  conv => lhs; rw [← List.dropLast_concat_getLast hne]
  simp [List.getLast?_eq_some_getLast hne]

theorem s_sl' : Str.ofString "/" = ch 47 := s_sl
noncomputable def bigTab : List (Str × PyData) := [(Str.ofString "/", .tuple [.int 2, .int 47, .int 17]), (Str.ofString ".", .tuple [.int 3, .int 52, .int 23]), (Str.ofString "=", .tuple [.int 2, .int 27, .int 22])]
theorem big_lk {k left : Nat} (hk : k = 47 ∨ k = 46 ∨ k = 61) : ∃ sz many one : Nat, (sz = 2 ∨ sz = 3) ∧ toksOf k left = List.replicate (left / sz) (many, Txt.mul (ch k) ((sz : Nat) : Int)) ++ List.replicate (left % sz) (one, ch k) ∧ bigTab.lookup (ch k) = some (.tuple [.int (sz : Int), .int (many : Int), .int (one : Int)]) := by
  unfold bigTab
  rw [s_eq, s_sl, s_dt]
  simp only [List.lookup_cons, ch_beq]
  rcases hk with rfl | rfl | rfl
  · exact ⟨2, 47, 17, .inl rfl, by simp [toksOf], by simp⟩
  · exact ⟨3, 52, 23, .inr rfl, by simp [toksOf], by simp⟩
  · exact ⟨2, 27, 22, .inl rfl, by simp [toksOf], by simp⟩
theorem h47 {k : Nat} (h : k = 47 ∨ k = 46 ∨ k = 61 ∨ k = 97) (h' : k ≠ 97) : k = 47 ∨ k = 46 ∨ k = 61 :=
  h.elim .inl fun h => h.elim (fun h => .inr (.inl h)) fun h => h.elim (fun h => .inr (.inr h)) fun h => absurd h h'
theorem big_nd : (bigTab.map (·.1)).Nodup := by
  unfold bigTab
  rw [s_eq, s_sl, s_dt]
  simp [ch]

theorem mono0 {p : Program} {w : World} {α : Type} {A : Around} {m : Sem α} {Q Q' : α → Shared → Prop} {s : Shared} (h : wpAny (model p w) A m Q F0 s) (hq : ∀ f s', Q f s' → Q' f s') : wpAny (model p w) A m Q' F0 s := wpAny_mono h hq fun _ _ e => e
section
variable {c : Cfg} {n : Nat}
set_option maxHeartbeats 400000 in
theorem told_spec {runs : List Run} (hr : ∀ r ∈ runs, RunOk r) (hl : runs.length ≤ 20) : FnSpec c 1 73 [.list (runs.map dRun)] (.list ((toldOf runs ++ [(0, e0)]).map dTk)) := by
  refine FnSpec.of1 (x := Str.ofString "runs") (fun pm code doc v => rfl) ?_
  intro A s h₀ L a code hA S
  refine wpAny_execs_cons (S.newOwn fun h₁ t₁ o hoX ho0 S₁ => ?_)
  have hoL : o ≠ L := fun w => hoX (w ▸ .head _)
  have R' : ∀ h h' : Heap, (∀ b ob, b ≠ o → h.get? b = some ob → h'.get? b = some ob) → True → True := fun _ _ _ _ => trivial
  refine wpAny_execs_cons (St.forL (s := { s with heap := h₁, toks := t₁ }) (γ := fun _ => []) (R := fun i h => True ∧ Own o ((toldOf (runs.take i)).map dTk) h) (ds := runs.map dRun) (S₁.lessL trivial) hA (S₁.ev hA (Ev.name rfl)) ?_ ?_)
  · intro i d g tk v hd S rv0
    obtain ⟨r, hx, rfl⟩ : ∃ r, runs[i]? = some r ∧ d = dRun r := by
      rw [List.getElem?_map] at hd
      obtain ⟨y, h1, h2⟩ := Option.map_eq_some_iff.mp hd
      exact ⟨y, h1, h2.symm⟩
    have hrk := hr r (List.mem_of_getElem? hx)
    simp only [toldOf_take hx]
    have htl : ((runs.take i)).length ≤ runs.length := List.length_take_le' ..
    have hrt : ∀ q ∈ runs.take i, RunOk q := fun q hq => hr q (List.mem_of_mem_take hq)
    have hln : (toldOf (runs.take i)).length ≤ 80 := by have := foldT_len (runs.take i) [] hrt; unfold toldOf; simp only [List.length_nil] at this; omega
    have hok : ∀ q ∈ toldOf (runs.take i), TkOk 40 q := fun q hq => (foldT_ok (runs.take i) [] 10 (by decide) hrt (by simp) q hq).le (by omega)
    generalize toldOf (runs.take i) = told at *
    refine S.unpack2 (s := { s with heap := g, toks := tk }) hA rv0 fun h₁ t₁ S₁ => ?_
    refine wpAny_execs_cons (S₁.assign (s := { s with heap := h₁, toks := t₁ }) (S₁.ev hA (Ev.name (d := .int (r.2 : Int)) rfl)) fun h₂ t₂ S₂ => ?_)
    -- the merging
    refine wpAny_execs_cons ?_
    refine mono0 (Q := fun f s' => f = .next ∧ ∃ (h : Heap) (tk : Nat) (told' : List Tk) (left : Nat), s' = { s with heap := h, toks := tk } ∧ left ≤ 4 ∧ told'.length ≤ 80 ∧ told' ++ toksOf r.1 left = stepT told r ∧
      St c (envOf (fnR 73).name (fnR 73).scope L a code) [o, L] h₀ g h [(Str.ofString "left", .int ((left : Nat) : Int)), (Str.ofString "sign", .str (ch r.1))] [(Str.ofString "told", .ref o)] (fun h => True ∧ Own o (told'.map dTk) h)) ?_ ?_
    · refine S₂.iteO (s := { s with heap := h₂, toks := t₂ }) (x := Str.ofString "told") (b := meets told r.1) (.head _) hA ?_ fun h₃ t₃ S₃ => ?_
      · have hsh := lay_toks hok
        have e1 : PyData.eqv (.list (told.map dTk)) (.list []) = told.isEmpty := by rw [eqv_nil]; simp
        have e2 : (ch r.1 == Str.ofString "=") = (r.1 == 61) := by rw [s_eq, ch_beq]
        unfold meets
        refine Tr.and (e2 ▸ Tr.cmp Cmp.eqS (Ev.name (d := .str (ch r.1)) rfl) Ev.str) fun _ => Tr.and (e1 ▸ Tr.cmp (Cmp.neD (shaped_list hsh.1 (by have := hsh.2; omega)) shaped_nil) (Ev.name rfl) (Ev.list EvA.nil)) fun he => Tr.and1 ?_
        have he' : told.isEmpty = false := by simpa using he
        exact any_17_47 (told.getLast?.getD (0, e0)).1 ▸ Tr.cmp (Cmp.inT rfl (by simp [PyData.depth]) rfl) (Ev.itemT (Ev.last (Ev.name rfl) (last_map dTk he' (0, e0))) Ev.int (by decide) (by decide) rfl) (Ev.tuple (EvA.cons Ev.int (EvA.cons Ev.int EvA.nil)))
      unfold stepT
      cases hb : meets told r.1
      · refine wpAny_execs_nil ⟨rfl, h₃, t₃, told, r.2, rfl, hrk.2.2, hln, by simp, S₃.lessL ⟨rfl, rfl, trivial⟩⟩
      · skip
        unfold meets at hb
        simp only [Bool.and_eq_true, Bool.not_eq_true', Bool.or_eq_true, beq_iff_eq] at hb
        obtain ⟨hs61, hne, hlast⟩ := hb
        have hsp := split_last hne
        generalize hlt : told.getLast?.getD (0, e0) = lt at *
        have hltm : lt ∈ told := by rw [hsp]; simp
        obtain ⟨hw1, hw2, hw3⟩ := hok lt hltm
        have hdl : told.dropLast.length ≤ 79 := by rw [List.length_dropLast]; omega
        have S₃' := S₃
        rw [hsp, List.map_append] at S₃'
        refine wpAny_execs_cons (Assign_Tuple (pop_call (s := { s with heap := h₃, toks := t₃ }) S₃' (.head _) (.head _) hoL (by simp; omega) (fun v h₄ rv S₄ => ?_) Stb.true R'))
        refine S₄.unpack2 (s := { s with heap := h₄, toks := t₃ }) hA (rv.weak fun _ f => f.elim) fun h₅ t₅ S₅ => ?_
        have hnum : ([(17, PyData.int 39), (47, PyData.int 48)] : List (Int × PyData)).lookup (lt.1 : Int) = some (.int ((if lt.1 = 17 then 39 else 48 : Nat) : Int)) := by
          rcases hlast with h | h <;> rw [h] <;> rfl
        generalize hnn : (if lt.1 = 17 then 39 else 48 : Nat) = nn at *
        refine wpAny_execs_cons (S₅.append (s := { s with heap := h₅, toks := t₅ }) (P := fun b => b ∉ [o, L]) (d := .tuple [.int (nn : Int), .str (lt.2 ++ eq1)]) (.head _) (.head _) hoL ?_ rfl (by simp; omega) (fun h₆ t₆ S₆ => ?_) Stb.true R')
        · have hadd : lt.2.length + (Str.ofString "=").length ≤ sizeLine := by
            have : (Str.ofString "=").length = 1 := by decide
            rw [sizeLine_eq]; omega
          have ev5 := fun e d h => St.ev (n := 0) (s := { s with heap := h₅, toks := t₅ }) (e := e) (d := d) S₅ hA h
          refine ev5 _ _ ?_
          refine Ev.tuple ?_
          refine EvA.cons ?_ ?_
          · refine Ev.dictI (kds := ?kds) (k := ?kk) (ds := ?ds) ?h ?hds ?hn ?hi ?hk ?hf
            case kk => exact (lt.1 : Int)
            case kds => exact [(17, .int 39), (47, .int 48)]
            case ds => exact [(.int 17, .int 39), (.int 47, .int 48)]
            case hk => exact hnum
            case hds => rfl
            case hn => decide
            case hf => rfl
            case hi => exact Ev.name (d := .int (lt.1 : Int)) rfl
            case h =>
              refine EvP.cons ?_ ?_ ?_
              · exact Ev.int
              · exact Ev.int
              · refine EvP.cons ?_ ?_ ?_
                · exact Ev.int
                · exact Ev.int
                · exact EvP.nil
          · refine EvA.cons ?_ ?_
            · exact Ev.bin (Bin.addS hadd) (Ev.name (d := .str lt.2) rfl) Ev.str
            · exact EvA.nil
        refine wpAny_execs_cons (S₆.assign (s := { s with heap := h₆, toks := t₆ }) (S₆.ev hA (Ev.bin Bin.subI (Ev.name (d := .int (r.2 : Int)) rfl) Ev.int)) fun h₇ t₇ S₇ => wpAny_execs_nil ?_)
        have hle : ((r.2 : Int) - 1) = ((r.2 - 1 : Nat) : Int) := by have := hrk.2.1; omega
        rw [hle] at S₇
        have hmg : mergeT told = told.dropLast ++ [(nn, lt.2 ++ eq1)] := by
          unfold mergeT
          have : told.getLast? = some lt := by rw [hsp]; simp
          rw [this, ← hnn]
        refine ⟨rfl, h₇, t₇, mergeT told, r.2 - 1, rfl, by have := hrk.2.2; omega, by rw [mergeT_len]; exact hln, rfl, St.lessL (S₇.res' (Stb.true.and Own.stb) ?_) ⟨rfl, rfl, trivial⟩⟩
        have := S₇.res
        rw [hmg, List.map_append]
        exact this
    -- the tokens
    rintro f s' ⟨rfl, h, tk', told', left, rfl, hleft, hln', hstep, S₃⟩
    rw [← hstep]
    have e2 : (ch r.1 == Str.ofString "a") = (r.1 == 97) := by rw [s_a, ch_beq]
    refine wpAny_execs_cons (S₃.ite (s := { s with heap := h, toks := tk' }) (b := r.1 == 97) hA (e2 ▸ Tr.cmp Cmp.eqS (Ev.name (d := .str (ch r.1)) rfl) Ev.str) fun h₄ t₄ S₄ => ?_)
    cases hb : r.1 == 97
    · have hn97 : r.1 ≠ 97 := by simpa using hb
      skip
      refine wpAny_execs_cons ?_
      refine mono0 (Q := fun f s' => f = .next ∧ ∃ (h : Heap) (tk : Nat) (sz many one : Nat), s' = { s with heap := h, toks := tk } ∧ (sz = 2 ∨ sz = 3) ∧ toksOf r.1 left = List.replicate (left / sz) (many, Txt.mul (ch r.1) ((sz : Nat) : Int)) ++ List.replicate (left % sz) (one, ch r.1) ∧
        St c (envOf (fnR 73).name (fnR 73).scope L a code) [o, L] h₀ g h [(Str.ofString "one", .int ((one : Nat) : Int)), (Str.ofString "many", .int ((many : Nat) : Int)), (Str.ofString "size", .int ((sz : Nat) : Int)), (Str.ofString "left", .int ((left : Nat) : Int)), (Str.ofString "sign", .str (ch r.1))] [(Str.ofString "told", .ref o)] (fun h => True ∧ Own o (told'.map dTk) h)) ?_ ?_
      · obtain ⟨sz, many, one, hsz, hts, hlk⟩ := big_lk (k := r.1) (left := left) (h47 hrk.1 hn97)
        refine St.assign3 (n := ?n) (X := ?X) (h₀ := ?h0) (g := ?g) (γ := ?γ) (fx := ?fx) (R := ?R) (d := ?d1) (d' := ?d2) (d'' := ?d3) ?S ?hAA ?he ?kont (hx := ?hx') (hs := ?hs') (hw := ?hw')
        case n => exact 0
        case S => exact S₄
        case hAA => exact hA
        case d1 => exact .int ((sz : Nat) : Int)
        case d2 => exact .int ((many : Nat) : Int)
        case d3 => exact .int ((one : Nat) : Int)
        case kont => exact fun h₅ t₅ S₅ => ⟨rfl, h₅, t₅, sz, many, one, rfl, hsz, hts, S₅⟩
        case hx' => rfl
        case hs' => rfl
        case hw' => rfl
        case he =>
          have ev4 := fun e d h => St.ev (n := 0) (s := { s with heap := h₄, toks := t₄ }) (e := e) (d := d) S₄ hA h
          refine ev4 _ _ ?_
          refine Ev.dictS (kds := ?kds) (k := ?kk) (ds := ?ds) ?h ?hds ?hn ?hi ?hk ?hf
          case kk => exact ch r.1
          case kds => exact bigTab
          case ds => exact [(.str (Str.ofString "/"), .tuple [.int 2, .int 47, .int 17]), (.str (Str.ofString "."), .tuple [.int 3, .int 52, .int 23]), (.str (Str.ofString "="), .tuple [.int 2, .int 27, .int 22])]
          case hk => exact hlk
          case hds => rfl
          case hn => exact big_nd
          case hf => rfl
          case hi => exact Ev.name (d := .str (ch r.1)) rfl
          case h =>
            refine EvP.cons ?_ ?_ ?_
            · exact Ev.str
            · exact Ev.tuple (EvA.cons Ev.int (EvA.cons Ev.int (EvA.cons Ev.int EvA.nil)))
            refine EvP.cons ?_ ?_ ?_
            · exact Ev.str
            · exact Ev.tuple (EvA.cons Ev.int (EvA.cons Ev.int (EvA.cons Ev.int EvA.nil)))
            refine EvP.cons ?_ ?_ ?_
            · exact Ev.str
            · exact Ev.tuple (EvA.cons Ev.int (EvA.cons Ev.int (EvA.cons Ev.int EvA.nil)))
            exact EvP.nil
      · rintro f s' ⟨rfl, h₅, t₅, sz, many, one, rfl, hsz, hts, S₅⟩
        have hd1 : ((left : Int).fdiv sz).toNat = left / sz := by rcases hsz with rfl | rfl <;> (rw [Int.fdiv_eq_ediv_of_nonneg _ (by omega)]; omega)
        have hd2 : ((left : Int).fmod sz).toNat = left % sz := by rcases hsz with rfl | rfl <;> (rw [Int.fmod_eq_emod_of_nonneg _ (by omega)]; omega)
        have hd3 : -(2 ^ 63 : Int) ≤ (left : Int).fdiv sz ∧ (left : Int).fdiv sz < 2 ^ 63 := by rcases hsz with rfl | rfl <;> (rw [Int.fdiv_eq_ediv_of_nonneg _ (by omega)]; omega)
        have hd4 : -(2 ^ 63 : Int) ≤ (left : Int).fmod sz ∧ (left : Int).fmod sz < 2 ^ 63 := by rcases hsz with rfl | rfl <;> (rw [Int.fmod_eq_emod_of_nonneg _ (by omega)]; omega)
        have hz : (sz : Int) ≠ 0 := by rcases hsz with rfl | rfl <;> decide
        have hz2 : ((sz : Int)).natAbs < 1073741824 := by rcases hsz with rfl | rfl <;> decide
        have hz3 : sz ≤ 1000 := by rcases hsz with rfl | rfl <;> decide
        have hq1 : left / sz ≤ 4 := Nat.le_trans (Nat.div_le_self _ _) hleft
        have hq2 : left % sz ≤ 4 := Nat.le_trans (Nat.mod_le _ _) hleft
        have hexp : (List.replicate ((left : Int).fdiv sz).toNat [PyData.tuple [.int (many : Int), .str (Txt.mul (ch r.1) (sz : Int))]]).flatten ++ (List.replicate ((left : Int).fmod sz).toNat [PyData.tuple [.int (one : Int), .str (ch r.1)]]).flatten = (toksOf r.1 left).map dTk := by
          rw [hts, List.map_append, hd1, hd2]
          exact congr (congrArg _ (rep_one dTk (many, Txt.mul (ch r.1) (sz : Int)) _)) (rep_one dTk (one, ch r.1) _)
        have htl := toksOf_len r.1 left hleft
        refine wpAny_execs_cons (S₅.extend (s := { s with heap := h₅, toks := t₅ }) (P := fun b => b ∉ [o, L]) (es := (toksOf r.1 left).map dTk) (.head _) (.head _) hoL ?_ (flats_toks _) (by simp; omega) (by simp; omega) (fun h₆ t₆ S₆ => wpAny_execs_nil (wpAny_execs_nil ?_)) Stb.true R')
        · rw [← hexp]
          refine S₅.ev (s := { s with heap := h₅, toks := t₅ }) hA (Ev.bin (Bin.addL (by rw [lm_len_rep_flat, lm_len_rep_flat, hd1, hd2, sizeLine_eq]; simp; omega)) (Ev.bin (Bin.mulL hd3.1 hd3.2 (by rw [hd1]; simp; omega)) (Ev.list (EvA.cons (Ev.tuple (EvA.cons (Ev.name rfl) (EvA.cons ?_ EvA.nil))) EvA.nil)) (Ev.bin (Bin.divI hz hz2) (Ev.name rfl) (Ev.name rfl))) (Ev.bin (Bin.mulL hd4.1 hd4.2 (by rw [hd2]; simp; omega)) (Ev.list (EvA.cons (Ev.tuple (EvA.cons (Ev.name rfl) (EvA.cons (Ev.name rfl) EvA.nil))) EvA.nil)) (Ev.bin (Bin.modI hz) (Ev.name rfl) (Ev.name rfl))))
          exact Ev.bin (Bin.mulS (mul_ok (ch r.1) sz (by show 1 ≤ 10; decide) hz3)) (Ev.name rfl) (Ev.name rfl)
        refine ⟨h₆, t₆, rfl, St.lessL (S₆.res' (Stb.true.and Own.stb) ?_) trivial⟩
        rw [List.map_append]; exact S₆.res
    · have h97 : r.1 = 97 := by simpa using hb
      skip
      have e97 : Txt.mul (Str.ofString "a") (left : Int) = Txt.mul (ch 97) (left : Int) := by rw [s_a]
      refine wpAny_execs_cons (S₄.append (s := { s with heap := h₄, toks := t₄ }) (d := dTk (1, Txt.mul (ch 97) (left : Int))) (.head _) (.head _) hoL (S₄.ev hA (Ev.tuple (EvA.cons Ev.int (EvA.cons (e97 ▸ Ev.bin (Bin.mulS (mul_ok _ left (by decide) (by omega))) Ev.str (Ev.name (d := .int (left : Int)) rfl)) EvA.nil)))) rfl (by simp; omega) (fun h₅ t₅ S₅ => wpAny_execs_nil (wpAny_execs_nil ?_)) Stb.true R')
      refine ⟨h₅, t₅, rfl, St.lessL (S₅.res' (Stb.true.and Own.stb) ?_) trivial⟩
      have e : toksOf r.1 left = [(1, Txt.mul (ch 97) (left : Int))] := by unfold toksOf; rw [h97]; rfl
      rw [e, List.map_append]; exact S₅.res
  · intro h' tk S'
    have htk : runs.take (runs.map dRun).length = runs := by rw [List.length_map, List.take_length]
    simp only [htk] at S'
    have hln : (toldOf runs).length ≤ 80 := by have := foldT_len runs [] hr; unfold toldOf; simp only [List.length_nil] at this; omega
    have XX : Cx c (envOf (fnR 73).name (fnR 73).scope L a code) (fun b => h₀.get? b = none) h' [(Str.ofString "told", .list ((toldOf runs).map dTk))] := by
      have X0 := S'.cxO (x := Str.ofString "told") (.head _)
      refine { gl := X0.gl, fr := fun b e => ?_, gv := X0.gv, bv := X0.bv, kd := X0.kd, vars := fun y d e => ?_ }
      · cases q : h₀.get? b with
        | none => rfl
        | some o => rw [S'.k0 _ _ q] at e; cases e
      · simp only [List.lookup_cons, List.lookup_nil] at e
        split at e
        · rename_i hq
          have : y = Str.ofString "told" := by simpa using hq
          subst this; cases e
          exact ⟨_, S'.raw (.head _), S'.res.2.rd ho0⟩
        · cases e
    refine wpAny_execs_cons (St.ret (s := { s with heap := h', toks := tk }) (P := fun a => h₀.get? a = none) (d := .list ((toldOf runs ++ [(0, e0)]).map dTk)) ?_ fun v h'' tk' k r => ?_)
    · rw [List.map_append, show List.map dTk [(0, e0)] = [.tuple [.int 0, .str (Str.ofString "")]] from rfl]
      refine Ev.at (s := { s with heap := h', toks := tk }) ?_ hA XX
      exact Ev.bin (Bin.addL (by rw [sizeLine_eq]; simp; omega)) (Ev.name rfl) (Ev.list (EvA.cons (Ev.tuple (EvA.cons Ev.int (EvA.cons Ev.str EvA.nil))) EvA.nil))
    · exact ⟨h'', tk', rfl, S'.k0.trans k, r⟩
end
end Mine
end

section
namespace Mine
open PySem PySem.Calls PyProof.Rows

theorem Rd.dom {h : Heap} {P : Addr → Prop} {v : Value} {d : PyData} (r : Rd h P v d) : Rd h (fun b => P b ∧ h.get? b ≠ Option.none) v d :=
  r.sq ⟨fun a o _ _ p e _ _ => ⟨e, p, by rw [e]; simp⟩, fun _ _ _ _ e _ _ => e⟩

section
variable {c : Cfg} {n : Nat} {env : Env} {X : List Addr} {h₀ g h h' : Heap} {γ : List (Str × PyData)} {fx : List (Str × Value)} {R R' : Heap → Prop} {s : Shared} {A : Around} {a : Addr} {ds : List PyData}

/-- what a turn must end in, where it makes lists -/
noncomputable abbrev TurnX (c : Cfg) (env : Env) (X : List Addr) (h₀ : Heap) (fx : List (Str × Value)) (s : Shared) (h : Heap) (γ : List (Str × PyData)) (R : List Addr → Heap → Prop) (Q : Flow → Shared → Prop) : Flow → Shared → Prop := fun f s₃ => match f with
  | .next | .cont => ∃ X' h' tk', s₃ = { s with heap := h', toks := tk' } ∧ (∀ b ∈ X, b ∈ X') ∧ (∀ b ∈ X', b ∈ X ∨ h.get? b = none) ∧ St c env X' h₀ h h' γ fx (R X')
  | .brk => False
  | .ret v => Q (.ret v) s₃
theorem St.forX {γ : Nat → List (Str × PyData)} {R : Nat → List Addr → Heap → Prop} {target iter : Expr} {body : List Stmt} {pos : Pos} {Q : Flow → Shared → Prop} (S : St c env X h₀ g s.heap (γ 0) fx (R 0 X)) (hA : AOk n A)
    (he : EvAt c A s env (fun b => b ∉ X) iter (.list ds))
    (turn : ∀ i d X h tk v, ds[i]? = some d → St c env X h₀ h h (γ i) fx (R i X) → Rd h (fun b => b ∉ X) v d →
      wpAny (model c.prog c.w) A (PySem.assign target env v) (fun _ s₂ => wpAny (model c.prog c.w) A (execs body env) (TurnX c env X h₀ fx s h (γ (i + 1)) (R (i + 1)) Q) F0 s₂) F0 { s with heap := h, toks := tk })
    (k : ∀ X' h' tk, St c env X' h₀ g h' (γ ds.length) fx (R ds.length X') → Q .next { s with heap := h', toks := tk })
    (hs : ∀ x, foldedSetIterable iter env x = pure x := by intro _; rfl) :
    wpAny (model c.prog c.w) A (exec (.For target iter body [] pos) env) Q F0 s := by
  refine wpAny_For (he _ fun v h₁ t₁ k₁ r => ?_) hs
  obtain ⟨ax, vs, rfl, ⟨hax, hax'⟩, hl, ra⟩ := r.dom.of_list
  refine wpAny_pyIter_list (s := { s with heap := h₁, toks := t₁ }) hl ?_
  have S₁ := S.kp k₁
  have nn := new_none h₁
  have hX : h₁.objs.size ∉ X := fun w => by obtain ⟨o, q1, _⟩ := S₁.xd _ w; rw [nn] at q1; cases q1
  have h0 : h₀.get? h₁.objs.size = none := by
    cases e : h₀.get? h₁.objs.size with
    | none => rfl
    | some o => rw [S₁.k0 _ _ e] at nn; cases nn
  have hg : g.get? h₁.objs.size = none := by
    cases e : g.get? h₁.objs.size with
    | none => rfl
    | some o => rw [S₁.keep _ _ hX e] at nn; cases nn
  have hne : ax ≠ h₁.objs.size := by obtain ⟨o, ho, _⟩ := hl; exact Nat.ne_of_lt (Heap.lt_size ho)
  have hlen := ra.length
  have hpush : ∀ o, ∀ b, h₁.get? b ≠ none → (h₁.push o).get? b ≠ none := fun o b hb w => by
    cases e : h₁.get? b with
    | none => exact hb e
    | some o' => rw [Heap.get?_push_of_some o e] at w; cases w
  generalize hIt : h₁.objs.size = It at *
  generalize hPP : (fun b => b ∉ X ∧ h₁.get? b ≠ none) = PP at *
  have PPn : ∀ {X' : List Addr}, (∀ b ∈ X', b ∈ X ∨ h₁.get? b = none) → ∀ b, PP b → b ∉ X' := fun hx b hb w => by
    subst hPP
    rcases hx b w with q | q
    · exact hb.1 q
    · exact hb.2 q
  have hax2 : PP ax := by subst hPP; exact ⟨hax, hax'⟩
  refine codeAny_forLoop_any (fun k s' => ∃ h tk i X', s' = { s with heap := h, toks := tk } ∧ k = ds.length + 1 - i ∧ i ≤ ds.length ∧ h.IsListIter It ax i ∧ h.IsList ax vs.toArray ∧ RdAll h PP vs ds ∧ St c env X' h₀ g h (γ i) fx (R i X') ∧ It ∉ X' ∧ (∀ b ∈ X', b ∈ X ∨ h₁.get? b = none) ∧ (∀ b, h₁.get? b ≠ none → h.get? b ≠ none)) ?_ (ds.length + 1) ?_
  · rintro kk s' ⟨h, tk, i, X', rfl, rfl, hi, hit, hl', ra', S', hIX, hx, hdm⟩
    obtain ⟨oI, hoI, hcI, hdI⟩ := id hit
    cases hv : vs.toArray[i]? with
    | none =>
      have hsz : i = ds.length := Nat.le_antisymm hi (by rw [← hlen]; simpa using hv)
      refine wpAny_pyNext_list_end (s := { s with heap := h, toks := tk }) hA.h hit hl' hv fun h₂ he₂ => wpAny_execs_nil ?_
      subst hsz
      exact k X' h₂ tk (S'.iter he₂ hoI hdI h0 hg hIX)
    | some v =>
      have hv' : vs[i]? = some v := by simpa using hv
      obtain ⟨d, hd, rv⟩ := ra'.get' hv'
      have hlt : i < ds.length := (List.getElem?_eq_some_iff.mp hd).1
      refine wpAny_pyNext_list_item (s := { s with heap := h, toks := tk }) hit hl' hv fun h₂ hit₂ hs₂ => ?_
      have S₂ := S'.iter (fun b o hb e => hs₂.extBut b o hb e) hoI hdI h0 hg hIX
      have sk : Sk h h₂ := sk_but (fun b o hb e => hs₂.extBut b o hb e) fun o' e => by rw [hoI] at e; cases e; rw [hdI]; exact ⟨(fun _ _ q => nomatch q), (fun _ q => nomatch q)⟩
      have hdm₂ : ∀ b, h₁.get? b ≠ none → h₂.get? b ≠ none := fun b hb w => by
        by_cases hbI : b = It
        · subst hbI; exact absurd nn hb
        · exact hdm b hb ((hs₂.2 b hbI).symm.trans w)
      refine go_listiter (s := { s with heap := h₂, toks := tk }) hit₂ ?_
      refine wpAny_mono (turn i d X' h₂ tk v hd S₂.rebase ((rv.sq sk.sq).weak (PPn hx))) (fun _ s₃ h₃ => wpAny_mono h₃ (fun f s₄ h₄ => ?_) fun _ _ f => f.elim) fun _ _ f => f.elim
      have fin : (∃ X'' h' tk', s₄ = { s with heap := h', toks := tk' } ∧ (∀ b ∈ X', b ∈ X'') ∧ (∀ b ∈ X'', b ∈ X' ∨ h₂.get? b = none) ∧ St c env X'' h₀ h₂ h' (γ (i + 1)) fx (R (i + 1) X'')) → ∃ m, m < ds.length + 1 - i ∧ ∃ h tk i X', s₄ = { s with heap := h, toks := tk } ∧ m = ds.length + 1 - i ∧ i ≤ ds.length ∧ h.IsListIter It ax i ∧ h.IsList ax vs.toArray ∧ RdAll h PP vs ds ∧ St c env X' h₀ g h (γ i) fx (R i X') ∧ It ∉ X' ∧ (∀ b ∈ X', b ∈ X ∨ h₁.get? b = none) ∧ (∀ b, h₁.get? b ≠ none → h.get? b ≠ none) := by
        rintro ⟨X'', h', tk', rfl, hsub, hnew, S₃⟩
        obtain ⟨o₂, q1₂, q2₂⟩ := id hit₂
        have hx₃ : ∀ b ∈ X'', b ∈ X ∨ h₁.get? b = none := fun b hb => by
          rcases hnew b hb with q | q
          · exact hx b q
          · refine .inr ?_
            cases e : h₁.get? b with
            | none => rfl
            | some o => exact absurd q (hdm₂ b (by rw [e]; simp))
        have hIX₃ : It ∉ X'' := fun w => by
          rcases hnew It w with q | q
          · exact hIX q
          · rw [q1₂] at q; cases q
        have q : Sq PP PP h₂ h' := ⟨fun b o _ _ hb e _ _ => ⟨S₃.keep b o (PPn hx₃ b hb) e, hb⟩, fun b o vs n e hc hd => S₃.keep b o (fun w => by
          rcases hnew b w with q | q
          · obtain ⟨o', h1, h2⟩ := S₂.xd b q; rw [h1] at e; cases e; exact h2 hc _ _ hd
          · rw [q] at e; cases e) e⟩
        refine ⟨ds.length + 1 - (i + 1), by omega, h', tk', i + 1, X'', rfl, rfl, hlt, ⟨o₂, S₃.keep _ _ hIX₃ q1₂, q2₂⟩, ?_, (ra'.sq sk.sq).sq q, { S₃ with keep := fun b o hb e => S₃.keep b o hb (S₂.keep b o (fun w => hb (hsub b w)) e) }, hIX₃, hx₃, fun b hb w => ?_⟩
        · obtain ⟨o, q1, q2⟩ := hl'.extBut hs₂.extBut hne; exact ⟨o, S₃.keep _ _ (PPn hx₃ ax hax2) q1, q2⟩
        · by_cases hbX : b ∈ X''
          · obtain ⟨o, e, _⟩ := S₃.xd b hbX; rw [e] at w; cases w
          · cases e : h₂.get? b with
            | none => exact hdm₂ b hb e
            | some o => rw [S₃.keep b o hbX e] at w; cases w
      cases f with
      | next => exact fin h₄
      | cont => exact fin h₄
      | brk => exact h₄.elim
      | ret v => exact h₄
  · refine ⟨h₁.push { cls := .type "list_iterator", data := .fields #[.ref ax, .int 0 0] }, t₁, 0, X, rfl, rfl, Nat.zero_le _, ⟨_, hIt ▸ Heap.get?_push_size _ rfl, rfl, rfl⟩, hl.push _, ra.kp (Kp.push _ _), S₁.kp (Kp.push _ _), hX, fun b hb => .inl hb, hpush _⟩

/-- a method of a list, one argument -/
theorem meth1 {b : Expr} {name : Str} {ap cp : Pos} {id : String} {arg : Expr} {d : PyData} {P : Addr → Prop} {Q : Value → Shared → Prop}
    (hbv : ∀ Q' : Value → Shared → Prop, (∀ h' tk, Kp s.heap h' → Q' (.ref a) { s with heap := h', toks := tk }) → wpAny (model c.prog c.w) A (eval b env) Q' F0 s)
    (hl : ∃ vs n, s.heap.get? a = some { cls := .type "list", data := .seq vs n })
    (slot : Slot "list" name id) (ty : typeOf (.builtin id) = pure (.type "method_descriptor")) (he : ∀ h' tk, Kp s.heap h' → EvAt c A { s with heap := h', toks := tk } env P arg d)
    (k : ∀ v h' tk, Kp s.heap h' → Rd h' P v d → wpAny (model c.prog c.w) A (call (.builtin id) [.ref a, v]) Q F0 { s with heap := h', toks := tk })
    (hbase : attributeBase b name env (eval b env) = eval b env := by rfl) (hs : starEach [arg] env = [(false, eval arg env)] := by rfl) (hline : (ap.endLine == cp.line) = true := by rfl) :
    wpAny (model c.prog c.w) A (eval (.Call (.Attribute b name ap) [arg] [] cp) env) Q F0 s := by
  refine Call_method1 hbase hs hline (hbv _ fun h₁ tk₁ k₁ => ?_)
  obtain ⟨vs, n, h1⟩ := hl
  exact ⟨"list", id, F.plainAttrs_list, slot, ty, ⟨_, k₁ _ _ h1, rfl⟩, (fun b e => by cases e; exact ⟨_, k₁ _ _ h1, rfl⟩), Calls.callWith_builtin rfl (Calls.evalArgs_plain (Calls.spliced_cons ((he h₁ tk₁ k₁) _ fun v h' tk k₂ r => Calls.spliced_nil (k v h' tk (k₁.trans k₂) r))))⟩

/-- one more list among those that may change -/
theorem St.grow {vs : Array Value} {m : Nat} (S : St c env X h₀ g h γ fx R) (k : Kp h h') (nn : h.get? a = none) (ha : h'.get? a = some { cls := .type "list", data := .seq vs m }) : St c env (a :: X) h₀ g h' γ fx R := by
  have S' := S.kp k
  refine { S' with x0 := ?_, hL := .tail _ S.hL, ns := ?_, xd := ?_, keep := fun b o hb e => S'.keep b o (fun w => hb (.tail _ w)) e }
  · intro b hb
    rcases List.mem_cons.mp hb with rfl | hb
    · cases e : h₀.get? b with
      | none => rfl
      | some o => rw [S.k0 _ _ e] at nn; cases nn
    · exact S.x0 b hb
  · obtain ⟨m, h1, h2, h3⟩ := S.ns
    refine ⟨m, h1.keeps k, fun x d e => ⟨(h2 x d e).1, let ⟨v, q1, q2⟩ := (h2 x d e).2; ⟨v, q1, q2.sq ⟨fun b o vs n p e _ _ => ⟨k _ _ e, fun w => ?_⟩, fun b o vs n e _ _ => k _ _ e⟩⟩⟩, h3⟩
    rcases List.mem_cons.mp w with rfl | w
    · rw [nn] at e; cases e
    · exact p w
  · intro b hb
    rcases List.mem_cons.mp hb with rfl | hb
    · exact ⟨_, ha, fun w => absurd w lt_ne⟩
    · exact S'.xd b hb

theorem St.fresh {e : Expr} {d : PyData} (S : St c env X h₀ g s.heap γ fx R) (hA : AOk n A) (he : Ev c n env [] e d) : EvAt c A s env (fun a => s.heap.get? a = none) e d :=
  Ev.at he hA { gl := S.gl.kp S.k0, fr := fun _ e => e, gv := S.gv, bv := S.bv, kd := S.kd, vars := fun _ _ e => nomatch e }

/-- the last item of a list by its raw value -/
theorem last_raw {x : Str} {k : Nat} {p p' p'' pos : Pos} {o : Addr} {vs : List Value} {v : Value} {Q : Value → Shared → Prop} (hA : AOk 0 A) (hx : Var c env s.heap x (.ref o)) (G : Cx c env (fun _ => True) s.heap []) (hl : s.heap.IsList o vs.toArray) (hv : vs.getLast? = some v)
    (q : ∀ h' tk, Kp s.heap h' → Q v { s with heap := h', toks := tk }) (hd : (x == ("__debug__" : Str)) = false := by decide) : wpAny (model c.prog c.w) A (eval (.Subscript (.Name x p) (.UnaryOp .USub (.Constant (.int 1) k p') p'') pos) env) Q F0 s := by
  have hne : vs ≠ [] := fun e => by subst e; simp at hv
  have hlp : 0 < vs.length := List.length_pos_iff.mpr hne
  refine Subscript_ (wpAny_Name (hx _ _ _ _ (Kp.refl _) ?_) hd)
  have hN : Ev c 0 env [] (.UnaryOp .USub (.Constant (.int 1) k p') p'') (.int (-1)) := Ev.neg Ev.int
  refine hN A s (fun _ => True) _ hA G fun v' g' t' k₂ r' => ?_
  obtain ⟨u, rfl⟩ := r'.of_int
  have hl' : g'.IsList o vs.toArray := by obtain ⟨o, q1, q2⟩ := hl; exact ⟨o, k₂ _ _ q1, q2⟩
  refine tail_any (Heap.IsList.typeIs (s := { s with heap := g', toks := t' }) hl') slot_list_getitem.lookup (wpAny_getItem_list_neg hl' (by omega) (by simp; omega) (by omega) ?_ (q _ _ k₂)) rfl
  rw [List.getLast?_eq_getElem?] at hv
  simp only [List.size_toArray, List.getElem?_toArray]
  rw [← hv]
  congr 1
  omega

/-! a list of lists of the def's own -/
noncomputable def Owns : List Addr → List (List PyData) → Heap → Prop
  | [], [], _ => True
  | a :: as, ds :: dss, h => Own a ds h ∧ Owns as dss h
  | _, _, _ => False
theorem Owns.stb : ∀ {as : List Addr} {dss : List (List PyData)}, Stb (Owns as dss)
  | [], [], _, _, _, _ => trivial
  | _ :: _, _ :: _, _, _, k, r => ⟨Own.stb _ _ k r.1, Owns.stb _ _ k r.2⟩
  | [], _ :: _, _, _, _, r => r.elim
  | _ :: _, [], _, _, _, r => r.elim
theorem Owns.len : ∀ {as : List Addr} {dss : List (List PyData)}, Owns as dss h → as.length = dss.length
  | [], [], _ => rfl
  | _ :: _, _ :: _, r => by simp [Owns.len r.2]
  | [], _ :: _, r => r.elim
  | _ :: _, [], r => r.elim
theorem Own.but {a b : Addr} {ds : List PyData} {vs : Array Value} {m : Nat} (ne : a ≠ b) (hb : h.get? b = some { cls := .type "list", data := .seq vs m }) (hs : Heap.SameBut b h h') (r : Own a ds h) : Own a ds h' := by
  obtain ⟨ws, k, h1, h2⟩ := r
  exact ⟨ws, k, hs.extBut _ _ ne h1, h2.sq ⟨fun _ _ _ _ f => f.elim, fun b' o vs n e hc _ => hs.extBut b' o (fun w => by subst w; rw [hb] at e; cases e; exact absurd hc lt_ne) e⟩⟩
theorem Owns.but {b : Addr} {vs : Array Value} {m : Nat} (hb : h.get? b = some { cls := .type "list", data := .seq vs m }) (hs : Heap.SameBut b h h') : ∀ {as : List Addr} {dss : List (List PyData)}, (∀ a ∈ as, a ≠ b) → Owns as dss h → Owns as dss h'
  | [], [], _, _ => trivial
  | _ :: _, _ :: _, hn, r => ⟨Own.but (hn _ (.head _)) hb hs r.1, Owns.but hb hs (fun a ha => hn a (.tail _ ha)) r.2⟩
  | [], _ :: _, _, r => r.elim
  | _ :: _, [], _, r => r.elim
theorem Owns.append : ∀ {as : List Addr} {dss : List (List PyData)} {a : Addr} {ds : List PyData}, Owns as dss h → Own a ds h → Owns (as ++ [a]) (dss ++ [ds]) h
  | [], [], _, _, _, r => ⟨r, trivial⟩
  | _ :: _, _ :: _, _, _, r, r' => ⟨r.1, Owns.append r.2 r'⟩
  | [], _ :: _, _, _, r, _ => r.elim
  | _ :: _, [], _, _, r, _ => r.elim
theorem Owns.split : ∀ {as : List Addr} {dss : List (List PyData)} {ds : List PyData}, Owns as (dss ++ [ds]) h → ∃ as' a, as = as' ++ [a] ∧ Owns as' dss h ∧ Own a ds h
  | [], [], _, r => r.elim
  | [a], [], _, r => ⟨[], a, rfl, trivial, r.1⟩
  | _ :: _ :: _, [], _, r => r.2.elim
  | a :: as, _ :: dss, _, r => by
    obtain ⟨as', b, rfl, h1, h2⟩ := Owns.split (as := as) (dss := dss) r.2
    exact ⟨a :: as', b, rfl, ⟨r.1, h1⟩, h2⟩
  | [], _ :: _, _, r => r.elim
theorem Owns.rd {P : Addr → Prop} : ∀ {as : List Addr} {dss : List (List PyData)}, (∀ a ∈ as, P a) → Owns as dss h → RdAll h P (as.map Value.ref) (dss.map PyData.list)
  | [], [], _, _ => .nil
  | _ :: _, _ :: _, hp, r => .cons (r.1.rd (hp _ (.head _))) (Owns.rd (fun a ha => hp a (.tail _ ha)) r.2)
  | [], _ :: _, _, r => r.elim
  | _ :: _, [], _, r => r.elim

noncomputable def Pcs (p L : Addr) (dss : List (List PyData)) (X : List Addr) : Heap → Prop := fun h => p ∈ X ∧ p ≠ L ∧ ∃ as n, h.get? p = some { cls := .type "list", data := .seq (List.toArray (as.map Value.ref)) n } ∧ as.Nodup ∧ (∀ a ∈ as, a ∈ X ∧ a ≠ p ∧ a ≠ L) ∧ Owns as dss h
theorem Pcs.stb {p L : Addr} {dss : List (List PyData)} {X : List Addr} : Stb (Pcs p L dss X) := fun _ _ k ⟨h1, h2, as, n, h3, h4, h5, h6⟩ => ⟨h1, h2, as, n, k _ _ h3 (.inl ⟨_, _, rfl⟩), h4, h5, Owns.stb _ _ k h6⟩
theorem Pcs.rd {p L : Addr} {dss : List (List PyData)} {X : List Addr} {P : Addr → Prop} (r : Pcs p L dss X h) (hp : ∀ b ∈ X, P b) : Rd h P (.ref p) (.list (dss.map PyData.list)) := by
  obtain ⟨h1, h2, as, n, h3, h4, h5, h6⟩ := r
  exact .list (hp p h1) h3 (h6.rd fun a ha => hp a (h5 a ha).1)

/-- x = [[]] -/
theorem St.newPcs {x : Str} {p lp lp' pos : Pos} {Q : Flow → Shared → Prop} (S : St c env X h₀ g s.heap γ fx R) (hA : AOk n A)
    (k : ∀ h' tk a b, St c env (a :: b :: X) h₀ g h' γ ((x, .ref a) :: fx) (Pcs a env.locals [[]] (a :: b :: X)) → Q .next { s with heap := h', toks := tk })
    (hγ : γ.lookup x = none := by rfl) (hx : env.kindOf x = some .local := by rfl) (hfx : (fx.all fun p => !(p.1 == x)) = true := by rfl) (hs : swapsWith (.List [.List [] lp] lp') (some (.Name x p)) pos.line env = pure false := by rfl) :
    wpAny (model c.prog c.w) A (exec (.Assign [.Name x p] (.List [.List [] lp] lp') pos) env) Q F0 s := by
  have hE : EvA c n env [] lp' [.List [] lp] [.list []] := .cons (Ev.list .nil) .nil
  refine wpAny_Assign_Name (List_ (hE A s (fun a => s.heap.get? a = none) _ hA { gl := S.gl.kp S.k0, fr := fun _ e => e, gv := S.gv, bv := S.bv, kd := S.kd, vars := fun _ _ e => nomatch e } fun vs h₁ t₁ k₁ r => ?_)) hs
  cases r with
  | cons r r' =>
    cases r'
    obtain ⟨b, ws, m, rfl, hb0, hb1, rb⟩ := r.of_listP
    have hw : ws = [] := by have := rb.length; simpa using this
    subst hw
    refine wpAny_newObj_type ?_ (by show 1 ≤ sizeLine; rw [sizeLine_eq]; decide)
    have nn := new_none h₁
    have hob : h₁.objs.size ≠ b := fun w => by rw [← w, nn] at hb1; cases hb1
    have hXa : ∀ y ∈ X, y ≠ h₁.objs.size ∧ y ≠ b := fun y hy => by
      obtain ⟨o, h1, _⟩ := S.xd y hy
      exact ⟨(fun w => by rw [w] at h1; rw [k₁ _ _ h1] at nn; cases nn), (fun w => by rw [w, hb0] at h1; cases h1)⟩
    have S₁ := (S.grow k₁ hb0 hb1).grow (Kp.push _ { cls := .type "list", data := .seq #[.ref b] }) nn (Heap.get?_push_size _ rfl)
    have S₂ := S₁.res' (R' := Pcs h₁.objs.size env.locals [[]] (h₁.objs.size :: b :: X)) Pcs.stb ⟨.head _, ((hXa _ S.hL).1).symm, [b], 0, Heap.get?_push_size _ rfl, by simp, fun y hy => ?_, ⟨[], m, Heap.get?_push_of_some _ hb1, .nil⟩, trivial⟩
    · exact St.bindRaw (s := { s with heap := h₁.push { cls := .type "list", data := .seq #[.ref b] }, toks := t₁ }) S₂ (fun h' tk S'' => k h' tk _ _ S'') hγ hx hfx
    · have : y = b := by simpa using hy
      subst this
      exact ⟨.tail _ (.head _), hob.symm, ((hXa _ S.hL).2).symm⟩

/-- x.append(a new list) -/
theorem St.pushPcs {x : Str} {p ap cp pos : Pos} {arg : Expr} {o : Addr} {dss : List (List PyData)} {Q : Flow → Shared → Prop} (S : St c env X h₀ g s.heap γ fx (Pcs o env.locals dss X)) (hA : AOk n A) (hm : (x, .ref o) ∈ fx)
    (he : Ev c n env [] arg (.list ds)) (hf : flats ds = true) (hn : dss.length ≤ 1000)
    (k : ∀ h' tk b, s.heap.get? b = none → St c env (b :: X) h₀ g h' γ fx (Pcs o env.locals (dss ++ [ds]) (b :: X)) → Q .next { s with heap := h', toks := tk })
    (hbase : attributeBase (.Name x p) (Str.ofString "append") env (eval (.Name x p) env) = eval (.Name x p) env := by rfl) (hs : starEach [arg] env = [(false, eval arg env)] := by rfl) (hline : (ap.endLine == cp.line) = true := by rfl) (hd : (x == ("__debug__" : Str)) = false := by decide)
    (hi : interactive env = false := by rfl) (hsw : swapsWith (.Call (.Attribute (.Name x p) (Str.ofString "append") ap) [arg] [] cp) none pos.line env = pure false := by rfl) :
    wpAny (model c.prog c.w) A (exec (.Expr (.Call (.Attribute (.Name x p) (Str.ofString "append") ap) [arg] [] cp) pos) env) Q F0 s := by
  obtain ⟨hoX, hoL, as, m, h3, h4, h5, h6⟩ := id S.res
  have hln := h6.len
  refine wpAny_Expr (meth1 (a := o) (d := .list ds) (P := fun a => s.heap.get? a = none) (fun Q' q => wpAny_Name (S.raw hm _ _ _ _ (Kp.refl _) (q _ _ (Kp.refl _))) hd) ⟨_, _, h3⟩ F.slot_list_append F.type_list_append (fun h' tk k₁ => ?_) (fun v h' tk k₁ r => ?_) hbase hs hline) hi hsw
  · exact Ev.at (s := { s with heap := h', toks := tk }) he hA (Cx.kp k₁ { gl := S.gl.kp S.k0, fr := fun _ e => e, gv := S.gv, bv := S.bv, kd := S.kd, vars := fun _ _ e => nomatch e })
  · obtain ⟨b, ws, mb, rfl, hb0, hb1, rb⟩ := r.of_listP
    have hbo : b ≠ o := fun w => by subst w; rw [h3] at hb0; cases hb0
    have hbX : b ∉ X := fun w => by obtain ⟨o, h1, _⟩ := S.xd b w; rw [hb0] at h1; cases h1
    have S₁ := S.grow k₁ hb0 hb1
    refine wpAny_list_append_plain (s := { s with heap := h', toks := tk }) ⟨m, k₁ _ _ h3⟩ (fun h'' ⟨m', hp⟩ hsb => ?_) (by rw [List.size_toArray, List.length_map, hln, sizeLine_eq]; omega)
    have hOw := (h6 |> Owns.stb _ _ k₁.sk)
    refine k h'' tk b hb0 (S₁.mut (.tail _ hoX) hoL (k₁ _ _ h3) hp hsb Pcs.stb ⟨.tail _ hoX, hoL, as ++ [b], m', by simpa using hp, ?_, ?_, ?_⟩)
    · rw [List.nodup_append]
      refine ⟨h4, by simp, fun y hy z hz w => ?_⟩
      have : z = b := by simpa using hz
      subst this; subst w
      exact hbX (h5 _ hy).1
    · intro y hy
      rcases List.mem_append.mp hy with hy | hy
      · exact ⟨.tail _ (h5 y hy).1, (h5 y hy).2⟩
      · have : y = b := by simpa using hy
        subst this
        exact ⟨.head _, hbo, fun w => hbX (w ▸ S.hL)⟩
    · refine Owns.append (Owns.but (k₁ _ _ h3) hsb (fun a ha => (h5 a ha).2.1) hOw) (Own.but hbo (k₁ _ _ h3) hsb ⟨ws, mb, hb1, RdAll.flat hf rb⟩)

/-- x[-1].append(a flat value) -/
theorem St.lastPcs {x : Str} {kk : Nat} {p p' p'' sp ap cp pos : Pos} {arg : Expr} {o : Addr} {dss : List (List PyData)} {d : PyData} {Q : Flow → Shared → Prop} (S : St c env X h₀ g s.heap γ fx (Pcs o env.locals (dss ++ [ds]) X)) (hA : AOk n A) (hm : (x, .ref o) ∈ fx)
    (he : Ev c n env γ arg d) (hf : flat d = true) (hn : ds.length ≤ 1000)
    (k : ∀ h' tk, St c env X h₀ g h' γ fx (Pcs o env.locals (dss ++ [ds ++ [d]]) X) → Q .next { s with heap := h', toks := tk })
    (hbase : attributeBase (.Subscript (.Name x p) (.UnaryOp .USub (.Constant (.int 1) kk p') p'') sp) (Str.ofString "append") env (eval (.Subscript (.Name x p) (.UnaryOp .USub (.Constant (.int 1) kk p') p'') sp) env) = eval (.Subscript (.Name x p) (.UnaryOp .USub (.Constant (.int 1) kk p') p'') sp) env := by rfl) (hs : starEach [arg] env = [(false, eval arg env)] := by rfl) (hline : (ap.endLine == cp.line) = true := by rfl) (hd : (x == ("__debug__" : Str)) = false := by decide)
    (hi : interactive env = false := by rfl) (hsw : swapsWith (.Call (.Attribute (.Subscript (.Name x p) (.UnaryOp .USub (.Constant (.int 1) kk p') p'') sp) (Str.ofString "append") ap) [arg] [] cp) none pos.line env = pure false := by rfl) :
    wpAny (model c.prog c.w) A (exec (.Expr (.Call (.Attribute (.Subscript (.Name x p) (.UnaryOp .USub (.Constant (.int 1) kk p') p'') sp) (Str.ofString "append") ap) [arg] [] cp) pos) env) Q F0 s := by
  obtain ⟨hoX, hoL, as, m, h3, h4, h5, h6⟩ := id S.res
  obtain ⟨as', b, rfl, h7, ws, mb, hb1, rb⟩ := h6.split
  have hb5 := h5 b (by simp)
  have hbn : ∀ a ∈ as', a ≠ b := fun a ha w => by
    rw [List.nodup_append] at h4
    exact h4.2.2 a ha b (by simp) w
  have hln := rb.length
  refine wpAny_Expr (meth1 (a := b) (d := d) (P := fun _ => True) (fun Q' q => last_raw (hA.le (Nat.zero_le _)) (S.raw hm) { gl := S.gl.kp S.k0, fr := fun _ _ => trivial, gv := S.gv, bv := S.bv, kd := S.kd, vars := fun _ _ e => nomatch e } ⟨_, h3, rfl, _, rfl⟩ (v := .ref b) (by simp) q hd) ⟨_, _, hb1⟩ F.slot_list_append F.type_list_append (fun h' tk k₁ => ?_) (fun v h' tk k₁ r => ?_) hbase hs hline) hi hsw
  · exact Ev.at (s := { s with heap := h', toks := tk }) he hA (Cx.kp k₁ { gl := S.gl.kp S.k0, fr := fun _ _ => trivial, gv := S.gv, bv := S.bv, kd := S.kd, vars := fun y dy e => let ⟨v, q1, q2⟩ := S.cx.vars y dy e; ⟨v, q1, q2.weak fun _ _ => trivial⟩ })
  · refine wpAny_list_append_plain (s := { s with heap := h', toks := tk }) ⟨mb, k₁ _ _ hb1⟩ (fun h'' ⟨m', hp⟩ hsb => ?_) (by rw [List.size_toArray, hln, sizeLine_eq]; omega)
    have hb1' := k₁ _ _ hb1
    have q : Sq (fun _ => False) (fun _ => False) h' h'' := ⟨fun _ _ _ _ f => f.elim, fun b o vs n e hc _ => hsb.extBut b o (fun w => by subst w; rw [hb1'] at e; cases e; exact absurd hc lt_ne) e⟩
    refine k h'' tk ((S.kp k₁).mut hb5.1 hb5.2.2 hb1' hp hsb Pcs.stb ⟨hoX, hoL, as' ++ [b], m, hsb.extBut _ _ hb5.2.1.symm (k₁ _ _ h3), h4, h5, ?_⟩)
    exact Owns.append (Owns.but hb1' hsb hbn (Owns.stb _ _ k₁.sk h7)) ⟨ws ++ [v], m', by simpa using hp, RdAll.append ((rb.kp k₁).sq q) (.one ((r.flat hf).sq q))⟩
end
end Mine
end

section
namespace Mine
open PySem PySem.Calls PyProof.Rows
section
variable {c : Cfg} {n : Nat} {env : Env} {X : List Addr} {h₀ g h h' : Heap} {γ : List (Str × PyData)} {fx : List (Str × Value)} {R R' : Heap → Prop} {s : Shared} {A : Around} {a : Addr}
theorem St.gnone {b : Addr} (S : St c env X h₀ g h γ fx R) (hb : h.get? b = none) : g.get? b = none := by
  cases e : g.get? b with
  | none => rfl
  | some o =>
    by_cases hx : b ∈ X
    · obtain ⟨o', q, _⟩ := S.xd b hx; rw [q] at hb; cases hb
    · rw [S.keep b o hx e] at hb; cases hb
theorem St.evRaw {x : Str} {p : Pos} {v : Value} {d : PyData} {P : Addr → Prop} (S : St c env X h₀ g s.heap γ fx R) (hm : (x, v) ∈ fx) (hr : Rd s.heap P v d) (hd : (x == ("__debug__" : Str)) = false := by decide) : EvAt c A s env P (.Name x p) d :=
  fun Q q => wpAny_Name (S.raw hm _ _ _ _ (Kp.refl _) (q _ _ _ (Kp.refl _) hr)) hd
end


noncomputable def stepP (acc : List (List Tk)) (t : Tk) : List (List Tk) :=
  if t.1 == 17 || t.1 == 47 then acc ++ [[]] else if t.1 == 39 || t.1 == 48 then acc ++ [[(22, eq1)]] else acc.dropLast ++ [acc.getLast?.getD [] ++ [t]]
noncomputable def piecesOf (toks : List Tk) : List (List Tk) := toks.foldl stepP [[]]
noncomputable def dPc (p : List Tk) : PyData := .list (p.map dTk)
theorem stepP_ne {acc : List (List Tk)} {t : Tk} : stepP acc t ≠ [] := by
  unfold stepP
  split
  · simp
  · split
    · simp
    · simp
theorem foldP_ne : ∀ (l : List Tk) (acc : List (List Tk)), acc ≠ [] → l.foldl stepP acc ≠ []
  | [], _, h => h
  | _ :: l, _, _ => foldP_ne l _ stepP_ne
theorem stepP_len {acc : List (List Tk)} {t : Tk} : (stepP acc t).length ≤ acc.length + 1 := by
  unfold stepP
  split
  · simp
  · split
    · simp
    · simp
theorem foldP_len : ∀ (l : List Tk) (acc : List (List Tk)), (l.foldl stepP acc).length ≤ acc.length + l.length
  | [], _ => by simp
  | t :: l, acc => by
    have h1 := foldP_len l (stepP acc t)
    have h2 := stepP_len (acc := acc) (t := t)
    simp only [List.foldl_cons, List.length_cons]; omega
theorem stepP_in {acc : List (List Tk)} {t : Tk} {m : Nat} (h : ∀ p ∈ acc, p.length ≤ m) : ∀ p ∈ stepP acc t, p.length ≤ m + 1 := by
  unfold stepP
  split
  · intro p hp; rcases List.mem_append.mp hp with hp | hp
    · have := h p hp; omega
    · simp at hp; subst hp; simp
  · split
    · intro p hp; rcases List.mem_append.mp hp with hp | hp
      · have := h p hp; omega
      · simp at hp; subst hp; simp
    · intro p hp; rcases List.mem_append.mp hp with hp | hp
      · have := h p (List.dropLast_subset _ hp); omega
      · simp at hp; subst hp
        cases e : acc.getLast? with
        | none => simp
        | some q => have := h q (List.mem_of_getLast? e); simp; omega
theorem foldP_in : ∀ (l : List Tk) (acc : List (List Tk)) (m : Nat), (∀ p ∈ acc, p.length ≤ m) → ∀ p ∈ l.foldl stepP acc, p.length ≤ m + l.length
  | [], _, _, h => by simpa using h
  | t :: l, acc, m, h => fun p hp => by
    have h1 := foldP_in l (stepP acc t) (m + 1) (stepP_in h) p hp
    simp only [List.length_cons]; omega
theorem piecesOf_take {l : List Tk} {i : Nat} {r : Tk} (h : l[i]? = some r) : piecesOf (l.take (i + 1)) = stepP (piecesOf (l.take i)) r := by
  unfold piecesOf
  rw [List.take_add_one, h]; simp

section
variable {c : Cfg} {n : Nat}
set_option maxHeartbeats 1600000 in
theorem pieces_spec {toks : List Tk} (h0 : ∀ t ∈ toks, t.1 ≠ 0) (hl : toks.length ≤ 100) : FnSpec c 2 76 [.list ((toks ++ [(0, e0)]).map dTk)] (.list ((piecesOf toks).map dPc)) := by
  refine FnSpec.of1 (x := Str.ofString "read") (fun pm code doc v => rfl) ?_
  intro A s h₀ L a code hA S
  refine wpAny_execs_cons (S.newPcs hA fun h₁ t₁ o b S₁ => ?_)
  refine wpAny_execs_cons (St.forX (s := { s with heap := h₁, toks := t₁ }) (γ := fun _ => []) (R := fun i X h => i ≤ toks.length ∧ Pcs o L ((piecesOf (toks.take i)).map (List.map dTk)) X h) (ds := (toks ++ [(0, e0)]).map dTk) ((St.lessL (γ' := []) S₁ trivial).res' (fun _ _ k r => ⟨r.1, Pcs.stb _ _ k r.2⟩) ⟨Nat.zero_le _, S₁.res⟩) hA (S₁.ev hA (Ev.name rfl)) ?_ ?_)
  · intro i d X g tk v hd S rv
    obtain ⟨hi, -⟩ := S.res
    have S := S.res' (R' := Pcs o L ((piecesOf (toks.take i)).map (List.map dTk)) X) Pcs.stb S.res.2
    rcases Nat.lt_or_eq_of_le hi with hi | hi
    · obtain ⟨t, hx, rfl⟩ : ∃ t, toks[i]? = some t ∧ d = dTk t := by
        rw [List.getElem?_map, List.getElem?_append_left hi] at hd
        obtain ⟨y, h1, h2⟩ := Option.map_eq_some_iff.mp hd
        exact ⟨y, h1, h2.symm⟩
      have ht0 := h0 t (List.mem_of_getElem? hx)
      have hne : piecesOf (toks.take i) ≠ [] := foldP_ne _ _ (by simp)
      have hlen : (piecesOf (toks.take i)).length ≤ 101 := by
        have := foldP_len (toks.take i) [[]]
        have h2 : (toks.take i).length ≤ toks.length := List.length_take_le' ..
        unfold piecesOf; simp only [List.length_cons, List.length_nil] at this; omega
      have hin : ∀ p ∈ piecesOf (toks.take i), p.length ≤ 101 := fun p hp => by
        have := foldP_in (toks.take i) [[]] 0 (by simp) p hp
        have h2 : (toks.take i).length ≤ toks.length := List.length_take_le' ..
        omega
      simp only [piecesOf_take hx]
      generalize piecesOf (toks.take i) = acc at *
      refine S.unpack2 (s := { s with heap := g, toks := tk }) hA rv fun h₁ t₁ S₁ => ?_
      have e0' : (t.1 == 0) = false := by simpa using ht0
      refine wpAny_execs_cons (S₁.ite (s := { s with heap := h₁, toks := t₁ }) (b := false) hA ?_ fun h₂ t₂ S₂ => wpAny_execs_nil ?_)
      · exact Tr.plain (d := .bool (t.1 == 0)) (e0' ▸ Tru.bool) (Ev.callF (iseof_spec) (by decide) (.cons (Ev.name (d := .int (t.1 : Int)) rfl) .nil))
      refine wpAny_execs_cons (S₂.ite (s := { s with heap := h₂, toks := t₂ }) (b := t.1 == 17 || t.1 == 47) hA ?_ fun h₃ t₃ S₃ => ?_)
      · exact any_17_47 t.1 ▸ Tr.cmp (Cmp.inT rfl (by simp [PyData.depth]) rfl) (Ev.name rfl) (Ev.tuple (.cons Ev.int (.cons Ev.int .nil)))
      unfold stepP
      cases hb : (t.1 == 17 || t.1 == 47)
      · skip
        refine wpAny_execs_cons (S₃.ite (s := { s with heap := h₃, toks := t₃ }) (b := t.1 == 39 || t.1 == 48) hA ?_ fun h₄ t₄ S₄ => ?_)
        · exact any_39_48 t.1 ▸ Tr.cmp (Cmp.inT rfl (by simp [PyData.depth]) rfl) (Ev.name rfl) (Ev.tuple (.cons Ev.int (.cons Ev.int .nil)))
        cases hb' : (t.1 == 39 || t.1 == 48)
        · skip
          obtain ⟨acc', q, rfl⟩ : ∃ acc' q, acc = acc' ++ [q] := ⟨_, _, (List.dropLast_concat_getLast hne).symm⟩
          have S₅ := S₄
          rw [List.map_append] at S₅
          refine wpAny_execs_cons (S₅.lastPcs (s := { s with heap := h₄, toks := t₄ }) (d := dTk t) hA (.head _) (Ev.tuple (.cons (Ev.name rfl) (.cons (Ev.name rfl) .nil))) rfl (by have := hin q (by simp); simp; omega) fun h₅ t₅ S₆ => wpAny_execs_nil (wpAny_execs_nil (wpAny_execs_nil ?_)))
          refine ⟨X, h₅, t₅, rfl, fun _ w => w, fun _ w => .inl w, St.res' (S₆.lessL trivial) (fun _ _ k r => ⟨r.1, Pcs.stb _ _ k r.2⟩) ⟨hi, ?_⟩⟩
          have : Pcs o L _ _ _ := S₆.res
          simpa using this
        · skip
          refine wpAny_execs_cons (S₄.pushPcs (s := { s with heap := h₄, toks := t₄ }) (ds := [dTk (22, eq1)]) hA (.head _) (Ev.list (.cons (Ev.tuple (.cons Ev.int (.cons Ev.str .nil))) .nil)) rfl (by simp; omega) fun h₅ t₅ b hb S₆ => wpAny_execs_nil (wpAny_execs_nil (wpAny_execs_nil ?_)))
          refine ⟨b :: X, h₅, t₅, rfl, fun _ w => .tail _ w, fun y w => ?_, St.res' (S₆.lessL trivial) (fun _ _ k r => ⟨r.1, Pcs.stb _ _ k r.2⟩) ⟨hi, ?_⟩⟩
          · rcases List.mem_cons.mp w with rfl | w
            · exact .inr (S₄.gnone hb)
            · exact .inl w
          · have : Pcs o L _ _ _ := S₆.res
            simpa using this
      · skip
        refine wpAny_execs_cons (S₃.pushPcs (s := { s with heap := h₃, toks := t₃ }) (ds := []) hA (.head _) (Ev.list .nil (by simp)) rfl (by simp; omega) fun h₅ t₅ b hb S₆ => wpAny_execs_nil (wpAny_execs_nil ?_))
        refine ⟨b :: X, h₅, t₅, rfl, fun _ w => .tail _ w, fun y w => ?_, St.res' (S₆.lessL trivial) (fun _ _ k r => ⟨r.1, Pcs.stb _ _ k r.2⟩) ⟨hi, ?_⟩⟩
        · rcases List.mem_cons.mp w with rfl | w
          · exact .inr (S₃.gnone hb)
          · exact .inl w
        · have : Pcs o L _ _ _ := S₆.res
          simpa using this
    · subst hi
      have hd' : d = dTk (0, e0) := by
        rw [List.getElem?_map, List.getElem?_append_right (Nat.le_refl _)] at hd
        simpa using hd.symm
      subst hd'
      rw [List.take_length] at S
      refine S.unpack2 (s := { s with heap := g, toks := tk }) hA rv fun h₁ t₁ S₁ => ?_
      refine wpAny_execs_cons (S₁.ite (s := { s with heap := h₁, toks := t₁ }) (b := true) hA ?_ fun h₂ t₂ S₂ => ?_)
      · exact Tr.plain (d := .bool ((0 : Nat) == 0)) Tru.bool (Ev.callF (iseof_spec) (by decide) (.cons (Ev.name (d := .int ((0 : Nat) : Int)) rfl) .nil))
      skip
      refine wpAny_execs_cons (St.ret (s := { s with heap := h₂, toks := t₂ }) (P := fun a => h₀.get? a = none) (d := .list ((piecesOf toks).map dPc)) (S₂.evRaw (s := { s with heap := h₂, toks := t₂ }) (.head _) ?_) fun v h'' tk' k r => ⟨h'', tk', rfl, S₂.k0.trans k, r⟩)
      have : Rd h₂ _ _ _ := S₂.res.rd S₂.x0
      rw [List.map_map] at this
      exact this
  · intro X' h' tk S'
    have := S'.res.1
    simp at this
    omega
end
end Mine
end

section
namespace Mine
open PySem PySem.Calls PyProof.Rows

theorem range_pick {α : Type} : ∀ (ds : List α), (List.range ds.length).filterMap (fun i => ds[i]?) = ds
  | [] => rfl
  | d :: ds => by
    rw [List.length_cons, List.range_succ_eq_map, List.filterMap_cons, List.filterMap_map]
    have e : (fun i => ((d :: ds)[i]?)) ∘ Nat.succ = fun i => ds[i]? := by funext i; simp
    rw [e, range_pick ds]
    simp
theorem filterMap_ext {α β : Type} {f g : α → Option β} : ∀ {l : List α}, (∀ x ∈ l, f x = g x) → l.filterMap f = l.filterMap g
  | [], _ => rfl
  | x :: l, h => by
    rw [List.filterMap_cons, List.filterMap_cons, h x (.head _), filterMap_ext fun y hy => h y (.tail _ hy)]
theorem slicePick_rev (vs : List Value) : slicePick vs.toArray none none (some (-1)) = vs.reverse.toArray := by
  unfold slicePick sliceBounds sliceRange
  simp only [List.size_toArray, Option.getD_some]
  congr 1
  have h : ¬ ((-1 : Int) > 0) := by omega
  simp only [h, if_false]
  have hc : (if ((vs.length : Int) - 1 > -1) then ((vs.length : Int) - 1 - -1 - -1 - 1) / (-(-1)) else 0).toNat = vs.length := by
    split
    · have : -(-1 : Int) = 1 := rfl
      rw [this, Int.ediv_one]; omega
    · omega
  rw [hc, List.filterMap_map]
  conv => rhs; rw [← range_pick vs.reverse]
  rw [List.length_reverse]
  refine filterMap_ext fun i hi => ?_
  have hi' : i < vs.length := List.mem_range.mp hi
  have e : (((vs.length : Int) - 1 + -1 * (i : Int)).toNat) = vs.length - 1 - i := by omega
  simp only [Function.comp, List.getElem?_toArray, e]
  rw [List.getElem?_reverse hi']

section
variable {c : Cfg} {n : Nat} {env : Env} {X : List Addr} {h₀ g h h' : Heap} {γ : List (Str × PyData)} {fx : List (Str × Value)} {R R' : Heap → Prop} {s : Shared} {A : Around} {a : Addr} {ds : List PyData}

theorem Ev.revL {value : Expr} {k : Nat} {p p' sp pos : Pos} {xs : List PyData} (h1 : Ev c n env γ value (.list xs)) (hx : xs.length ≤ sizeLine) : Ev c n env γ (.Subscript value (.Slice none none (some (.UnaryOp .USub (.Constant (.int 1) k p) p')) sp) pos) (.list xs.reverse) :=
  fun A s P Q hA X q => Subscript_ (h1 A s P _ hA X fun v g t k₁ r => wpAny_Slice (evalPart_none_step (evalPart_none_step (evalPart_some_step ((Ev.neg Ev.int : Ev c n env γ _ (.int (-1))) A _ P _ hA (X.kp k₁) fun v' g' t' k₂ r' => (by
    obtain ⟨u, rfl⟩ := r'.of_int
    obtain ⟨l, vs, rfl, hp, hl, ra⟩ := (r.kp k₂).of_list
    have hl' := hl.push { cls := .type "slice", data := .fields #[.none, .none, .int (-1) u] }
    refine tail_any (Heap.IsList.typeIs (s := { s with heap := g'.push { cls := .type "slice", data := .fields #[.none, .none, .int (-1) u] }, toks := t' }) hl') list_getitem_lookup
      (wpAny_getItem_list_slice hl' (Heap.IsSliceOf.new ..) .none .none (.int (-1) u) (by simp) ?_ (by rw [List.size_toArray, ra.length]; exact hx)) rfl
    rw [slicePick_rev]
    have kk : Kp g' ((g'.push { cls := .type "slice", data := .fields #[.none, .none, .int (-1) u] }).push { cls := .type "list", data := .seq vs.reverse.toArray }) := (Kp.push _ _).trans (Kp.push _ _)
    exact q _ _ _ ((k₁.trans k₂).trans kk) (.list ((((X.kp k₁).kp k₂).kp (Kp.push _ _)).fr _ (new_none _)) (Heap.get?_push_size _ rfl) ((ra.reverse).kp kk))))))))

/-- a join of a list that is evaluated at a state -/
theorem EvAt.join {arg : Expr} {apos pos p : Pos} {x : Str} {kk : Nat} {xs : List Str} {P P' : Addr → Prop} (hok : JoinOk x xs = true) (h2 : ∀ tk, EvAt c A { s with toks := tk } env P arg (.list (xs.map .str)))
    (hs : starEach [arg] env = [(false, eval arg env)] := by rfl) (hline : (apos.endLine == pos.line) = true := by rfl)
    (hbase : attributeBase (.Constant (.str x) kk p) (Str.ofString "join") env (eval (.Constant (.str x) kk p) env) = eval (.Constant (.str x) kk p) env := by rfl) :
    EvAt c A s env P' (.Call (.Attribute (.Constant (.str x) kk p) (Str.ofString "join") apos) [arg] [] pos) (.str (Txt.join x xs)) := fun Q q =>
  Call_method1 hbase hs hline (by
    refine wpAny_Constant_str ?_
    exact ⟨"str", "str.join", F.plainAttrs_str, F.slot_str_join, F.type_str_join, typeIs_str _ _ _, (fun _ e => nomatch e), Calls.callWith_builtin rfl (Calls.evalArgs_plain (Calls.spliced_cons (h2 _ _ fun v' g' t' k₂ r' => Calls.spliced_nil (by
      obtain ⟨l, vs, rfl, hp, hl, ra⟩ := r'.of_list
      obtain ⟨l', rfl, e⟩ := strs_of ra
      exact SC.join hl e hok fun t'' tk => q _ g' tk k₂ (.str _ _)))))⟩)

theorem St.aug {op : Operator} {x : Str} {p pos : Pos} {value : Expr} {i j r : Int} {Q : Flow → Shared → Prop} (S : St c env X h₀ g s.heap γ fx R) (hA : AOk n A) (hx : γ.lookup x = some (.int i)) (he : Ev c n env γ value (.int j))
    (hop : ∀ (t u : Tok) (s : Shared) (Q : Value → Shared → Prop), Q (.int r s.toks) { s with toks := s.toks + 1 } → wpAny (model c.prog c.w) A (inplaceOp op (.int i t) (.int j u)) Q F0 s)
    (k : ∀ h' tk, St c env X h₀ g h' ((x, .int r) :: γ) fx R → Q .next { s with heap := h', toks := tk }) (hk : env.kindOf x = some .local := by rfl) (hfx : (fx.all fun p => !(p.1 == x)) = true := by rfl) :
    wpAny (model c.prog c.w) A (exec (.AugAssign (.Name x p) op value pos) env) Q F0 s := by
  obtain ⟨v, hv, rv⟩ := S.cx.vars x _ hx
  obtain ⟨t, rfl⟩ := rv.of_int
  refine wpAny_AugAssign_Name (hv _ _ _ _ (Kp.refl _) (S.ev hA he _ fun w h₁ t₁ k₁ r₁ => ?_))
  obtain ⟨u, rfl⟩ := r₁.of_int
  refine hop t u { s with heap := h₁, toks := t₁ } _ ?_
  exact St.bindS (s := { s with heap := h₁, toks := t₁ + 1 }) (S.kp k₁) (.int _ _) (fun h' tk S' => k h' tk S') hk hfx

/-- a list of the def's own is one no more -/
theorem St.freeze {x : Str} (S : St c env (a :: X) h₀ g h γ ((x, .ref a) :: fx) (fun h => R h ∧ Own a ds h)) (hL : env.locals ∈ X) (haX : a ∉ X) (hg : g.get? a = none) (hR : Stb R) : St c env X h₀ g h ((x, .list ds) :: γ) fx R where
  gl := S.gl
  k0 := S.k0
  x0 := fun b hb => S.x0 b (.tail _ hb)
  hL := hL
  gv := S.gv
  bv := S.bv
  kd := S.kd
  ns := by
    obtain ⟨m, h1, h2, h3⟩ := S.ns
    refine ⟨m, h1, fun y d e => ?_, fun p hp => h3 p (.tail _ hp)⟩
    simp only [List.lookup_cons] at e
    split at e
    · rename_i hq
      have hy : y = x := by simpa using hq
      subst hy; cases e
      obtain ⟨q1, q2⟩ := h3 _ (.head _)
      exact ⟨q1, _, q2, S.res.2.rd haX⟩
    · obtain ⟨q1, v, q2, q3⟩ := h2 y d e
      exact ⟨q1, v, q2, q3.weak fun b hb w => hb (.tail _ w)⟩
  xd := fun b hb => S.xd b (.tail _ hb)
  keep := fun b o hb e => S.keep b o (fun w => by
    rcases List.mem_cons.mp w with rfl | w
    · rw [hg] at e; cases e
    · exact hb w) e
  res := S.res.1
  stb := hR

theorem Comp.rangeN {elt iter : Expr} {x : Str} {p pos : Pos} {ifs : List Expr} {scope : Scope} {cl : List (Str × Addr)} {δ : List (Str × PyData)} {N : Nat} (f : PyData → Option PyData) (hA : AOk n A) (ce : CEnv env scope) (G : Gl c s.heap) (hx : scope.names.lookup x = some .local)
    (he : ∀ Q : Value → Shared → Prop, (∀ r h' tk t u v, Kp s.heap h' → IsRange h' r 0 N 1 t u v → Q (.ref r) { s with heap := h', toks := tk }) → wpAny (model c.prog c.w) A (eval iter env) Q F0 s) (hsz : N ≤ 1000) (hδ : Drawn' c env scope cl s.heap δ)
    (hb : ∀ i, i < N → ∀ C, match f (.int (i : Int)) with
      | none => Tests c n (compEnvC scope cl C env) ((x, .int (i : Int)) :: δ) ifs false
      | some d' => imm d' = true ∧ Tests c n (compEnvC scope cl C env) ((x, .int (i : Int)) :: δ) ifs true ∧ Ev c n (compEnvC scope cl C env) ((x, .int (i : Int)) :: δ) elt d') :
    Comp c A s env (.ListComp elt [⟨.Name x p, iter, ifs, 0⟩] scope pos) scope cl (eval iter env) ((List.range N).filterMap fun i : Nat => f (.int (i : Int))) := by
  intro RR hRR
  refine he _ fun r h₁ t₁ t u v k₁ hr => ?_
  refine comp_core (s₁ := { s with heap := h₁, toks := t₁ }) (Src.range hA hr hsz) (fun i => f (.int (i : Int))) ce.cell' ce.kd hsz ?_ ?_
  · intro C i v s₂ m hC hi hP hk hn
    obtain ⟨t, rfl⟩ := hP
    exact comp_turnN (s₁ := { s with heap := h₁, toks := t₁ }) hA ce (G.kp k₁) hx (fun C h y d k e => hδ C h y d (k₁.trans k) e) (hb i hi) C _ s₂ m hC (.int _ _) hk hn
  · intro D C h' tk m vs' k hD hC hDC hn hg hv hk
    have up : ∀ b, h₁.get? b = none → s.heap.get? b = none := fun b e => by
      cases q : s.heap.get? b with
      | none => rfl
      | some o => rw [k₁ _ _ q] at e; cases e
    exact hRR D C h' tk m vs' k (up D hD) (up C hC) hDC hn hg hv (k₁.trans hk)
end
end Mine
end

section
namespace Mine
open PySem PySem.Calls PyProof.Rows


noncomputable def nums (p : List Tk) : List Nat := p.map (·.1)
noncomputable def wordOf (p : List Tk) : Str := Txt.join e0 (p.map (·.2))
noncomputable def stepU (acc : Nat × List Str) (p : List Tk) : Nat × List Str :=
  if nums p == [23, 23] then (acc.1 + 1, acc.2)
  else if (!(nums p == []) && !(nums p == [23])) then (if 0 < acc.1 then (acc.1 - 1, acc.2) else (acc.1, wordOf p :: acc.2))
  else acc
noncomputable def keptOf (ps : List (List Tk)) : Nat × List Str := ps.foldl stepU (0, [])
noncomputable def keptF (root : Str) (ps : List (List Tk)) : List Str := if root == e0 then List.replicate (keptOf ps.reverse).1 dd ++ (keptOf ps.reverse).2 else (keptOf ps.reverse).2
noncomputable def normalF (root : Str) (ps : List (List Tk)) : Str := if (((root ++ Txt.join sl (keptF root ps)).length : Int) != 0) = true then root ++ Txt.join sl (keptF root ps) else dt

theorem keptOf_take {l : List (List Tk)} {i : Nat} {r : List Tk} (h : l[i]? = some r) : keptOf (l.take (i + 1)) = stepU (keptOf (l.take i)) r := by
  unfold keptOf
  rw [List.take_add_one, h]; simp
theorem stepU_le (acc : Nat × List Str) (p : List Tk) : (stepU acc p).1 ≤ acc.1 + 1 ∧ (stepU acc p).2.length ≤ acc.2.length + 1 := by
  unfold stepU
  split
  · simp
  · split
    · split
      · simp; omega
      · simp
    · simp
theorem foldU_le : ∀ (l : List (List Tk)) (acc : Nat × List Str), (l.foldl stepU acc).1 ≤ acc.1 + l.length ∧ (l.foldl stepU acc).2.length ≤ acc.2.length + l.length
  | [], _ => by simp
  | t :: l, acc => by
    have h1 := foldU_le l (stepU acc t)
    have h2 := stepU_le acc t
    simp only [List.foldl_cons, List.length_cons]; omega
theorem lay_nats : ∀ (l : List Nat), PyData.canLayAll0 (l.map dNat) = true ∧ PyData.depthAll (l.map dNat) ≤ 0
  | [] => by simp [PyData.canLayAll0, PyData.depthAll]
  | r :: l => by
    have ih := lay_nats l
    simp only [List.map_cons, PyData.canLayAll0, PyData.depthAll, dNat, PyData.canLay0, PyData.depth, ih.1]
    refine ⟨by simp, ?_⟩
    have := ih.2
    omega
theorem eqv_nats : ∀ (l m : List Nat), PyData.eqv (.list (l.map dNat)) (.list (m.map dNat)) = (l == m)
  | [], [] => by simp [PyData.eqv, PyData.eqvAll]
  | [], _ :: _ => by simp [PyData.eqv, PyData.eqvAll]
  | _ :: _, [] => by simp [PyData.eqv, PyData.eqvAll]
  | a :: l, b :: m => by
    have ih := eqv_nats l m
    simp only [List.map_cons, PyData.eqv, PyData.eqvAll, dNat] at ih ⊢
    rw [ih, Bool.eq_iff_iff]
    simp
    intro _
    omega
theorem eqv_n2 (l : List Nat) : PyData.eqv (.list (l.map dNat)) (.list [.int 23, .int 23]) = (l == [23, 23]) := eqv_nats l [23, 23]
theorem eqv_n1 (l : List Nat) : PyData.eqv (.list (l.map dNat)) (.list [.int 23]) = (l == [23]) := eqv_nats l [23]
theorem eqv_n0 (l : List Nat) : PyData.eqv (.list (l.map dNat)) (.list []) = (l == []) := eqv_nats l []
theorem flats_strs (l : List Str) : flats (l.map PyData.str) = true := by
  induction l with
  | nil => rfl
  | cons r l ih => simp [flats, flat, ih]

noncomputable def fst2 : PyData → Option PyData | .tuple [x, _] => some x | _ => none
noncomputable def snd2 : PyData → Option PyData | .tuple [_, y] => some y | _ => none
noncomputable def dQ (t : Tk) : PyData × PyData := (.int (t.1 : Int), .str t.2)
theorem pc_eq (p : List Tk) : dPc p = .list ((p.map dQ).map fun q => .tuple [q.1, q.2]) := by
  unfold dPc; rw [List.map_map]; rfl
theorem num_eq : ∀ p : List Tk, ((p.map dQ).filterMap fun q => fst2 (.tuple [q.1, q.2])) = (nums p).map dNat
  | [] => rfl
  | t :: p => by
    have ih := num_eq p
    simp only [List.map_cons, List.filterMap_cons, fst2, nums, dNat, dQ] at ih ⊢
    rw [ih]
theorem word_eq : ∀ p : List Tk, ((p.map dQ).filterMap fun q => snd2 (.tuple [q.1, q.2])) = (p.map (·.2)).map PyData.str
  | [] => rfl
  | t :: p => by
    have ih := word_eq p
    simp only [List.map_cons, List.filterMap_cons, snd2, dQ] at ih ⊢
    rw [ih]

section
variable {c : Cfg} {n : Nat}
set_option maxHeartbeats 1600000 in
theorem normal_spec {root : Str} {ps : List (List Tk)} (hl : ps.length ≤ 101) (hin : ∀ p ∈ ps, p.length ≤ 101) (hj : ∀ p ∈ ps, JoinOk e0 (p.map (·.2)) = true)
    (hj2 : JoinOk sl (keptF root ps) = true) (hn : root.length + (Txt.join sl (keptF root ps)).length ≤ 1000) : FnSpec c 1 77 [.str root, .list (ps.map dPc)] (.str (normalF root ps)) := by
  refine FnSpec.of2 (x := Str.ofString "root") (y := Str.ofString "pieces") (by decide) (fun pm code doc v v' => rfl) ?_
  intro A s h₀ L a code hA S
  refine wpAny_execs_cons (S.assign (S.ev hA (Ev.int (i := 0))) fun h₁ t₁ S₁ => ?_)
  refine wpAny_execs_cons (S₁.newOwn (s := { s with heap := h₁, toks := t₁ }) fun h₂ t₂ o hoX ho0 S₂ => ?_)
  have hoL : o ≠ L := fun w => hoX (w ▸ .head _)
  have R' : ∀ h h' : Heap, (∀ b ob, b ≠ o → h.get? b = some ob → h'.get? b = some ob) → True → True := fun _ _ _ _ => trivial
  refine wpAny_execs_cons (St.forL (s := { s with heap := h₂, toks := t₂ }) (γ := fun i => [(Str.ofString "ups", .int ((keptOf (ps.reverse.take i)).1 : Int)), (Str.ofString "root", .str root)]) (R := fun i h => True ∧ Own o ((keptOf (ps.reverse.take i)).2.map .str) h) (ds := (ps.map dPc).reverse) (S₂.lessL ⟨rfl, rfl, trivial⟩) hA (S₂.ev hA (Ev.revL (Ev.name rfl) (by rw [sizeLine_eq]; simp; omega))) ?_ ?_)
  · intro i d g tk v hd S rv
    obtain ⟨p, hx, rfl⟩ : ∃ p, ps.reverse[i]? = some p ∧ d = dPc p := by
      rw [← List.map_reverse, List.getElem?_map] at hd
      obtain ⟨y, h1, h2⟩ := Option.map_eq_some_iff.mp hd
      exact ⟨y, h1, h2.symm⟩
    have hpm : p ∈ ps := List.mem_reverse.mp (List.mem_of_getElem? hx)
    have hpl := hin p hpm
    have hpj := hj p hpm
    simp only [keptOf_take hx]
    have hk := foldU_le (ps.reverse.take i) (0, [])
    have h2 : (ps.reverse.take i).length ≤ ps.reverse.length := List.length_take_le' ..
    rw [List.length_reverse] at h2
    have hk1 : (keptOf (ps.reverse.take i)).1 ≤ 101 := by unfold keptOf; simp only [List.length_nil] at hk; omega
    have hk2 : (keptOf (ps.reverse.take i)).2.length ≤ 101 := by unfold keptOf; simp only [List.length_nil] at hk; omega
    generalize keptOf (ps.reverse.take i) = acc at *
    refine S.bind1 (s := { s with heap := g, toks := tk }) (x := Str.ofString "piece") rv fun h₁ t₁ S₁ => ?_
    refine wpAny_execs_cons (S₁.assignComp (s := { s with heap := h₁, toks := t₁ }) (cl := []) (outs := (nums p).map dNat) (num_eq p ▸ Comp.listT fst2 (δ := []) (P := fun b => b ∉ [o, L]) hA ⟨rfl, rfl, rfl, rfl, rfl⟩ (S₁.gl.kp S₁.k0) rfl rfl (by decide) (pc_eq p ▸ S₁.ev hA (Ev.name rfl)) (by simp; omega) Drawn'.nil ?_) ⟨rfl, rfl, rfl, rfl, rfl⟩ rfl fun h₂ t₂ S₂ => ?_)
    · intro q hq C
      obtain ⟨t, -, rfl⟩ := List.mem_map.mp hq
      exact ⟨rfl, .inl ⟨rfl, rfl⟩, Ev.name rfl⟩
    have hsh := shaped_list (lay_nats (nums p)).1 (by have := (lay_nats (nums p)).2; omega)
    refine wpAny_execs_cons (S₂.ite (s := { s with heap := h₂, toks := t₂ }) (b := nums p == [23, 23]) hA (eqv_n2 (nums p) ▸ Tr.cmp (Cmp.eqD hsh (by decide)) (Ev.name rfl) (Ev.list (.cons Ev.int (.cons Ev.int .nil)))) fun h₃ t₃ S₃ => ?_)
    unfold stepU
    cases hb : nums p == [23, 23]
    · skip
      refine wpAny_execs_cons (S₃.ite (s := { s with heap := h₃, toks := t₃ }) (b := !(nums p == []) && !(nums p == [23])) hA (Tr.and (eqv_n0 (nums p) ▸ Tr.cmp (Cmp.neD hsh (by decide)) (Ev.name rfl) (Ev.list .nil)) fun _ => Tr.and1 (eqv_n1 (nums p) ▸ Tr.cmp (Cmp.neD hsh (by decide)) (Ev.name rfl) (Ev.list (.cons Ev.int .nil)))) fun h₄ t₄ S₄ => ?_)
      cases hb2 : (!(nums p == []) && !(nums p == [23]))
      · skip
        refine wpAny_execs_nil (wpAny_execs_nil (wpAny_execs_nil ?_))
        exact ⟨h₄, t₄, rfl, S₄.lessL ⟨rfl, rfl, trivial⟩⟩
      · skip
        have egt : decide ((acc.1 : Int) > 0) = decide (0 < acc.1) := by simp
        refine wpAny_execs_cons (S₄.ite (s := { s with heap := h₄, toks := t₄ }) (b := decide (0 < acc.1)) hA (egt ▸ Tr.cmp Cmp.gtI (Ev.name rfl) Ev.int) fun h₅ t₅ S₅ => ?_)
        by_cases h0 : 0 < acc.1
        · simp only [h0, decide_true, if_true]
          refine wpAny_execs_cons (S₅.aug (s := { s with heap := h₅, toks := t₅ }) (i := (acc.1 : Int)) (j := 1) (r := (acc.1 : Int) - 1) hA rfl Ev.int (fun t u s Q q => PyProof.Rows.isub_int q) fun h₆ t₆ S₆ => wpAny_execs_nil (wpAny_execs_nil (wpAny_execs_nil (wpAny_execs_nil ?_))))
          have e : ((acc.1 : Int) - 1) = ((acc.1 - 1 : Nat) : Int) := by omega
          rw [e] at S₆
          exact ⟨h₆, t₆, rfl, S₆.lessL ⟨rfl, rfl, trivial⟩⟩
        · simp only [h0, decide_false, Bool.false_eq_true, if_false]
          refine wpAny_execs_cons (S₅.insert0 (s := { s with heap := h₅, toks := t₅ }) (P := fun _ => True) (d := .str (wordOf p)) (.head _) (.head _) hoL (fun tk => ?_) rfl (by simp; omega) (fun h₆ t₆ S₆ => wpAny_execs_nil (wpAny_execs_nil (wpAny_execs_nil (wpAny_execs_nil ?_)))) Stb.true R')
          · refine EvAt.join (P := fun _ => True) hpj fun tk' => ?_
            refine Comp.ev (cl := []) (word_eq p ▸ Comp.listT snd2 (δ := []) (P := fun b => b ∉ [o, L]) hA ⟨rfl, rfl, rfl, rfl, rfl⟩ (S₅.gl.kp S₅.k0) rfl rfl (by decide) (pc_eq p ▸ S₅.ev (s := { s with heap := h₅, toks := tk' }) hA (Ev.name rfl)) (by simp; omega) Drawn'.nil ?_) ⟨rfl, rfl, rfl, rfl, rfl⟩ rfl (fun _ _ => trivial)
            intro q hq C
            obtain ⟨t, -, rfl⟩ := List.mem_map.mp hq
            exact ⟨rfl, .inl ⟨rfl, rfl⟩, Ev.name rfl⟩
          · exact ⟨h₆, t₆, rfl, S₆.lessL ⟨rfl, rfl, trivial⟩⟩
    · skip
      refine wpAny_execs_cons (S₃.aug (s := { s with heap := h₃, toks := t₃ }) (i := (acc.1 : Int)) (j := 1) (r := (acc.1 : Int) + 1) hA rfl Ev.int (fun t u s Q q => PyProof.Rows.iadd_int q) fun h₆ t₆ S₆ => wpAny_execs_nil (wpAny_execs_nil ?_))
      exact ⟨h₆, t₆, rfl, S₆.lessL ⟨rfl, rfl, trivial⟩⟩
  · intro h' tk S'
    have htk : ps.reverse.take (ps.map dPc).reverse.length = ps.reverse := by rw [List.length_reverse, List.length_map, ← List.length_reverse, List.take_length]
    simp only [htk] at S'
    have hk := foldU_le ps.reverse (0, [])
    have hkf : keptF root ps = if root == e0 then List.replicate (keptOf ps.reverse).1 dd ++ (keptOf ps.reverse).2 else (keptOf ps.reverse).2 := rfl
    have hk1 : (keptOf ps.reverse).1 ≤ 101 := by unfold keptOf; simp only [List.length_nil, List.length_reverse] at hk; omega
    have hk2 : (keptOf ps.reverse).2.length ≤ 101 := by unfold keptOf; simp only [List.length_nil, List.length_reverse] at hk; omega
    unfold normalF
    generalize keptF root ps = kf at *
    generalize keptOf ps.reverse = acc at *
    have S₃ := S'.freeze (.head _) hoX ho0 Stb.true
    refine wpAny_execs_cons ?_
    refine wpAny_mono (Q := fun f s' => f = .next ∧ ∃ (h : Heap) (tk : Nat), s' = { s with heap := h, toks := tk } ∧
      St c (envOf (fnR 77).name (fnR 77).scope L a code) [L] h₀ h₀ h [(Str.ofString "kept", .list (kf.map .str)), (Str.ofString "root", .str root)] [] (fun _ => True)) ?_ ?_ fun _ _ e => e
    · refine S₃.ite (s := { s with heap := h', toks := tk }) (b := root == e0) hA (Tr.cmp Cmp.eqS (Ev.name rfl) Ev.str) fun h₄ t₄ S₄ => ?_
      cases hb : root == e0
      · skip
        rw [hb] at hkf
        simp only [Bool.false_eq_true, if_false] at hkf
        rw [hkf]
        exact wpAny_execs_nil ⟨rfl, h₄, t₄, rfl, S₄.lessL ⟨rfl, rfl, trivial⟩⟩
      · skip
        rw [hb] at hkf
        simp only [if_true] at hkf
        have e : kf.map PyData.str = (List.replicate ((acc.1 : Int)).toNat [PyData.str dd]).flatten ++ acc.2.map .str := by
          rw [hkf, List.map_append, Int.toNat_natCast, rep_one]
        rw [e]
        refine wpAny_execs_cons (S₄.assign (s := { s with heap := h₄, toks := t₄ }) (S₄.ev hA (Ev.bin (Bin.addL ?_) (Ev.bin (Bin.mulL (by omega) (by omega) ?_) (Ev.list (.cons Ev.str .nil)) (Ev.name rfl)) (Ev.name rfl))) fun h₅ t₅ S₅ => wpAny_execs_nil ⟨rfl, h₅, t₅, rfl, S₅.lessL ⟨rfl, rfl, trivial⟩⟩)
        · rw [lm_len_rep_flat, sizeLine_eq]; simp; omega
        · simp; omega
    · rintro f s' ⟨rfl, h, tk', rfl, S₄⟩
      have hlen : (root ++ Txt.join sl kf).length ≤ 1000 := by rw [Str.length_append]; exact hn
      refine wpAny_execs_cons (St.ret (P := fun a => h₀.get? a = none) ((S₄.ev (s := { s with heap := h, toks := tk' }) hA (Ev.or2 (Ev.bin (Bin.addS (by rw [sizeLine_eq]; omega)) (Ev.name (d := .str root) rfl) (Ev.join hj2 Ev.str (Ev.name rfl))) (Tru.str (fit63 _ hlen)) fun _ => Ev.str)).flat (by split <;> rfl)) fun v h' tk k r => ?_)
      refine ⟨h', tk, rfl, S₄.k0.trans k, ?_⟩
      have e : (if (((root ++ Txt.join sl kf).length : Int) != 0) = true then PyData.str (root ++ Txt.join sl kf) else .str dt) = .str (if (((root ++ Txt.join sl kf).length : Int) != 0) = true then root ++ Txt.join sl kf else dt) := by split <;> rfl
      rw [← e]
      exact r
end
end Mine
end

section
namespace Mine
open PySem PySem.Calls PyProof.Rows

/-- a cell that holds what stands for d -/
noncomputable def Cel (K : Addr) (P : Addr → Prop) (d : PyData) : Heap → Prop := fun h => ∃ v, h.IsCell K (some v) ∧ Rd h P v d
noncomputable def CelAny (K : Addr) : Heap → Prop := fun h => ∃ v, h.IsCell K v
theorem Cel.stb {K : Addr} {P : Addr → Prop} {d : PyData} : Stb (Cel K P d) := fun _ _ k ⟨v, ⟨o, h1, h2⟩, h3⟩ => ⟨v, ⟨o, k _ _ h1 (.inr ⟨_, h2⟩), h2⟩, h3.sq k.sq⟩
theorem CelAny.stb {K : Addr} : Stb (CelAny K) := fun _ _ k ⟨v, ⟨o, h1, h2⟩⟩ => ⟨v, ⟨o, k _ _ h1 (.inr ⟨_, h2⟩), h2⟩⟩
theorem Cel.any {K : Addr} {P : Addr → Prop} {d : PyData} {h : Heap} (x : Cel K P d h) : CelAny K h := let ⟨v, h1, _⟩ := x; ⟨_, h1⟩

section
variable {c : Cfg} {n : Nat} {env : Env} {X : List Addr} {h₀ g h h' : Heap} {γ : List (Str × PyData)} {fx : List (Str × Value)} {R R' : Heap → Prop} {s : Shared} {A : Around} {a K : Addr} {ds : List PyData} {P : Addr → Prop}

theorem Var.cell {x : Str} {v : Value} (hk : env.scope.kind = .function) (hl : env.kindOf x = some .cell) (hc : env.cells.lookup x = some K) (hv : h.IsCell K (some v)) : Var c env h x v :=
  fun _ _ _ _ k q => wpAny_loadName_cell hk hl hc (hv.keeps k) q
theorem Cx.add {x : Str} {v : Value} {d : PyData} (X : Cx c env P h γ) (hv : Var c env h x v) (hr : Rd h P v d) : Cx c env P h ((x, d) :: γ) :=
  { X with vars := fun y dy e => (by
      simp only [List.lookup_cons] at e
      split at e
      · rename_i hq
        have hy : y = x := by simpa using hq
        subst hy; cases e
        exact ⟨v, hv, hr⟩
      · exact X.vars y dy e) }
theorem Cx.addC {x : Str} {d : PyData} (X : Cx c env P h γ) (hC : Cel K P d h) (hc : env.cells.lookup x = some K) (hl : env.kindOf x = some .cell := by rfl) : Cx c env P h ((x, d) :: γ) :=
  let ⟨_, h1, h2⟩ := hC; X.add (Var.cell X.kd hl hc h1) h2
theorem Drawn'.cell {scope : Scope} {x : Str} {d : PyData} (hC : Cel K P d h) (hkd : scope.kind = .function) (hl : ∀ C, (compEnvC scope [(x, K)] C env).kindOf x = some .cell) : Drawn' c env scope [(x, K)] h [(x, d)] := fun C h' y dy k e => by
  simp only [List.lookup_cons, List.lookup_nil] at e
  split at e
  · rename_i hq
    have hy : y = x := by simpa using hq
    subst hy; cases e
    obtain ⟨v, h1, h2⟩ := hC
    exact ⟨v, Var.cell hkd (hl C) (by simp [compEnvC]) (h1.keeps k), (h2.kp k).weak fun _ _ => trivial⟩
  · cases e

/-- x = e, where x is a cell of the def -/
theorem St.assignC {x : Str} {p pos : Pos} {e : Expr} {d : PyData} {Q : Flow → Shared → Prop} (S : St c env X h₀ g s.heap γ fx (fun h => R h ∧ CelAny K h)) (he : EvAt c A s env P e d) (hf : flat d = true) (hc : env.cells.lookup x = some K) (hK : K ∈ X) (hKL : K ≠ env.locals)
    (hR : Stb R) (hR' : ∀ h h', (∀ b o, b ≠ K → h.get? b = some o → h'.get? b = some o) → (∀ o vs n, h.get? K = some o → o.data ≠ .seq vs n) → R h → R h')
    (k : ∀ h' tk, St c env X h₀ g h' γ fx (fun h => R h ∧ Cel K (fun _ => False) d h) → Q .next { s with heap := h', toks := tk }) (hl : env.kindOf x = some .cell := by rfl)
    (hs : swapsWith e (some (.Name x p)) pos.line env = pure false := by rfl) : wpAny (model c.prog c.w) A (exec (.Assign [.Name x p] e pos) env) Q F0 s := by
  refine wpAny_Assign_Name (he _ fun v h₁ t₁ k₁ r => ?_) hs
  have S₁ := S.kp k₁
  obtain ⟨hr, v₀, hv₀⟩ := S₁.res
  obtain ⟨o, ho, hod⟩ := id hv₀
  refine wpAny_storeName_cell (s := { s with heap := h₁, toks := t₁ }) S.kd hl hc hv₀ fun h₂ hv₂ hs₂ => k h₂ t₁ ?_
  obtain ⟨o₂, ho₂, hod₂⟩ := id hv₂
  have q : Sq (fun b => b ∉ X) (fun b => b ∉ X) h₁ h₂ := ⟨fun b o vs n p e _ _ => ⟨hs₂.extBut b o (fun w => p (w ▸ hK)) e, p⟩, fun b o' vs n e hc hd => hs₂.extBut b o' (fun w => by subst w; rw [ho] at e; cases e; rw [hod] at hd; cases hd) e⟩
  refine { S₁ with k0 := fun b o e => hs₂.extBut b o (fun w => by subst w; rw [S.x0 _ hK] at e; cases e) (S₁.k0 b o e), ns := ?_, xd := fun b hb => ?_, keep := fun b o hb e => hs₂.extBut b o (fun w => hb (w ▸ hK)) (S₁.keep b o hb e), res := ?_, stb := hR.and Cel.stb }
  · obtain ⟨m, h1, h2, h3⟩ := S₁.ns
    exact ⟨m, h1.sameBut hs₂ (Ne.symm hKL), fun x d e => ⟨(h2 x d e).1, let ⟨v, q1, q2⟩ := (h2 x d e).2; ⟨v, q1, q2.sq q⟩⟩, h3⟩
  · by_cases hb' : b = K
    · subst hb'; exact ⟨_, ho₂, fun _ vs n e => by rw [hod₂] at e; cases e⟩
    · obtain ⟨o, h1, h2⟩ := S₁.xd b hb
      exact ⟨o, (hs₂.2 b hb').trans h1, h2⟩
  · have q0 : Sq (fun _ => False) (fun _ => False) h₁ h₂ := ⟨fun _ _ _ _ f => f.elim, fun b o' vs n e hc hd => hs₂.extBut b o' (fun w => by subst w; rw [ho] at e; cases e; rw [hod] at hd; cases hd) e⟩
    exact ⟨hR' _ _ (fun b o hb e => hs₂.extBut b o hb e) (fun o' vs n e w => by rw [ho] at e; cases e; rw [hod] at w; cases w) hr, v, hv₂, (r.flat hf).sq q0⟩

/-- a def whose only cell is its parameter -/
theorem FnSpec.ofP {i : Nat} {d₁ d : PyData} {x : Str} (hb : ∀ pm code doc v, bindArgs (docDef (fnR i).name (fnR i).params (fnR i).body (fnR i).scope pm code doc) ⟨[v], []⟩ = pure [(x, v)])
    (body : ∀ (A : Around) (s : Shared) (h₀ : Heap) (L a : Addr) (code : Value), AOk n A → St c (envOfC (fnR i).name (fnR i).scope L a code) [L] h₀ h₀ s.heap [] [] (Cel (L + 1) (fun b => b ∉ [L]) d₁) →
      wpAny (model c.prog c.w) A (execs (fnR i).body (envOfC (fnR i).name (fnR i).scope L a code)) (RetP s h₀ d) F0 s)
    (hl : (fnR i).scope.names.lookup x = some .cell := by rfl) (hc : ∀ L, (cellsFrom (L + 1) (fnR i).scope.names []).lookup x = some (L + 1) := by intro _; rfl) (hco : (fnR i).scope.isCoroutine = false := by rfl) (hgen : (fnR i).scope.isGenerator = false := by rfl) (hk : (fnR i).scope.kind = .function := by rfl) : FnSpec c (n + 1) i [d₁] d := by
  intro A s P a o pm code doc vs Q hA G hf ho hd hcd ra q
  cases ra with
  | cons r ra =>
    cases ra
    rename_i v
    refine wpAny_call (call_cells_ret (hA.room) ho hd G.lim hcd (hb _ _ _ _) (by intro y hy; simp at hy; subst hy; exact .inr ⟨hl, by rw [hc]; rfl⟩) (fun h₁ tk Fr₁ Cl₁ => ?_) hco hgen hk)
    have hn0 := new_none s.heap
    have k1 : Kp s.heap h₁ := Fr₁.keep
    have S : St c (envOfC (fnR i).name (fnR i).scope s.heap.objs.size a code) [s.heap.objs.size] s.heap s.heap h₁ [] [] (Cel (s.heap.objs.size + 1) (fun b => b ∉ [s.heap.objs.size]) d₁) := by
      refine { gl := G, k0 := k1, x0 := ?_, hL := .head _, gv := rfl, bv := rfl, kd := hk, ns := ⟨_, Fr₁.ns, (fun _ _ e => nomatch e), fun p hp => (nomatch hp)⟩, xd := ?_, keep := fun b o _ e => k1 b o e, res := ?_, stb := Cel.stb }
      · intro b hb'; simp at hb'; subst hb'; exact hn0
      · intro b hb'; simp at hb'; subst hb'
        obtain ⟨o', es, ep, ho', hd', _⟩ := Fr₁.ns
        exact ⟨o', ho', fun _ vs n e => by rw [hd'] at e; cases e⟩
      · have hcell := Cl₁.cell x _ (hc _)
        have hcm : (bindC (envOfC (fnR i).name (fnR i).scope s.heap.objs.size a code).kindOf [(x, v)] fun _ => none) x = some v := by
          unfold bindC
          rw [if_neg (show ¬ (envOfC (fnR i).name (fnR i).scope s.heap.objs.size a code).kindOf x = some .local from by
            show ¬ (fnR i).scope.names.lookup x = some .local
            rw [hl]; decide)]
          simp [bindC]
        rw [hcm] at hcell
        refine ⟨v, hcell, ?_⟩
        have r' : Rd s.heap (fun a => ¬ s.heap.get? a = none) v d₁ := r.sq ⟨fun b o vs n hp e _ _ => ⟨e, fun hn => by rw [hn] at e; cases e⟩, fun _ _ _ _ e _ _ => e⟩
        exact (r'.kp k1).weak fun b hb' hm => by simp at hm; subst hm; exact hb' hn0
    refine wpAny_mono (body _ { s with heap := h₁, toks := tk } s.heap s.heap.objs.size a code (hA.deeper _) S) (fun f s' hq => ?_) fun _ _ e => e
    obtain ⟨h', tk', rfl, k2, r2⟩ := hq
    exact q _ h' tk' k2 (r2.weak fun b hb' => hf b hb')

/-- a def with one local parameter and one cell -/
theorem FnSpec.ofC {i : Nat} {d₁ d : PyData} {x y : Str} (hb : ∀ pm code doc v, bindArgs (docDef (fnR i).name (fnR i).params (fnR i).body (fnR i).scope pm code doc) ⟨[v], []⟩ = pure [(x, v)])
    (body : ∀ (A : Around) (s : Shared) (h₀ : Heap) (L a : Addr) (code : Value), AOk n A → St c (envOfC (fnR i).name (fnR i).scope L a code) [L + 1, L] h₀ h₀ s.heap [(x, d₁)] [] (CelAny (L + 1)) →
      wpAny (model c.prog c.w) A (execs (fnR i).body (envOfC (fnR i).name (fnR i).scope L a code)) (RetP s h₀ d) F0 s)
    (hl : (fnR i).scope.names.lookup x = some .local := by rfl) (hc : ∀ L, (cellsFrom (L + 1) (fnR i).scope.names []).lookup y = some (L + 1) := by intro _; rfl) (hco : (fnR i).scope.isCoroutine = false := by rfl) (hgen : (fnR i).scope.isGenerator = false := by rfl) (hk : (fnR i).scope.kind = .function := by rfl) : FnSpec c (n + 1) i [d₁] d := by
  intro A s P a o pm code doc vs Q hA G hf ho hd hcd ra q
  cases ra with
  | cons r ra =>
    cases ra
    rename_i v
    refine wpAny_call (call_cells_ret (hA.room) ho hd G.lim hcd (hb _ _ _ _) (by intro y hy; simp at hy; subst hy; exact .inl hl) (fun h₁ tk Fr₁ Cl₁ => ?_) hco hgen hk)
    have hn0 := new_none s.heap
    have hn1 : s.heap.get? (s.heap.objs.size + 1) = none := by
      cases e : s.heap.get? (s.heap.objs.size + 1) with
      | none => rfl
      | some o => exact absurd (Heap.lt_size e) (Nat.not_lt.mpr (Nat.le_succ _))
    have k1 : Kp s.heap h₁ := Fr₁.keep
    have hcell := Cl₁.cell y _ (hc _)
    have S : St c (envOfC (fnR i).name (fnR i).scope s.heap.objs.size a code) [s.heap.objs.size + 1, s.heap.objs.size] s.heap s.heap h₁ [(x, d₁)] [] (CelAny (s.heap.objs.size + 1)) := by
      refine { gl := G, k0 := k1, x0 := ?_, hL := .tail _ (.head _), gv := rfl, bv := rfl, kd := hk, ns := ⟨_, Fr₁.ns, ?_, fun p hp => (nomatch hp)⟩, xd := ?_, keep := fun b o _ e => k1 b o e, res := ⟨_, hcell⟩, stb := CelAny.stb }
      · intro b hb'; simp at hb'; rcases hb' with rfl | rfl
        · exact hn1
        · exact hn0
      · intro y dy e
        have : y = x ∧ d₁ = dy := by
          simp only [List.lookup_cons, List.lookup_nil] at e
          split at e
          · rename_i hq; exact ⟨by simpa using hq, by injection e⟩
          · cases e
        obtain ⟨rfl, rfl⟩ := this
        refine ⟨hl, v, ?_, ?_⟩
        · unfold bindL
          rw [if_pos (show (envOfC (fnR i).name (fnR i).scope s.heap.objs.size a code).kindOf y = some .local from hl)]
          simp [bindL]
        have r' : Rd s.heap (fun a => ¬ s.heap.get? a = none) v d₁ := r.sq ⟨fun b o vs n hp e _ _ => ⟨e, fun hn => by rw [hn] at e; cases e⟩, fun _ _ _ _ e _ _ => e⟩
        exact (r'.kp k1).weak fun b hb' hm => by
          simp at hm
          rcases hm with rfl | rfl
          · exact hb' hn1
          · exact hb' hn0
      · intro b hb'; simp at hb'; rcases hb' with rfl | rfl
        · obtain ⟨o', ho', hd'⟩ := hcell
          exact ⟨o', ho', fun _ vs n e => by rw [hd'] at e; cases e⟩
        · obtain ⟨o', es, ep, ho', hd', _⟩ := Fr₁.ns
          exact ⟨o', ho', fun _ vs n e => by rw [hd'] at e; cases e⟩
    refine wpAny_mono (body _ { s with heap := h₁, toks := tk } s.heap s.heap.objs.size a code (hA.deeper _) S) (fun f s' hq => ?_) fun _ _ e => e
    obtain ⟨h', tk', rfl, k2, r2⟩ := hq
    exact q _ h' tk' k2 (r2.weak fun b hb' => hf b hb')

/-- range(e) -/
theorem range_ev {p pos : Pos} {e : Expr} {N : Int} (hA : AOk n A) (XX : Cx c env P s.heap γ) (h : Ev c n env γ e (.int N)) (Q : Value → Shared → Prop) (q : ∀ r h' tk t u v, Kp s.heap h' → IsRange h' r 0 N 1 t u v → Q (.ref r) { s with heap := h', toks := tk })
    (hk : env.kindOf (Str.ofString "range") = some .globalImplicit := by rfl) (he : starEach [e] env = (false, eval e env) :: starEach [] env := by rfl) :
    wpAny (model c.prog c.w) A (eval (.Call (.Name (Str.ofString "range") p) [e] [] pos) env) Q F0 s := by
  refine Call_ (glob_bi (v := .type "range") rfl XX (PyProof.Rows.callWith_type1 (args_cons (h A s P _ hA XX fun v g t k₁ r => args_nil ?_) he) he) hk) rfl
  obtain ⟨u, rfl⟩ := r.of_int
  exact call_range_1 (q _ _ _ _ _ _ (k₁.trans (Kp.push _ _)) (IsRange.new ..))

/-- while -/
theorem while_ {test : Expr} {body : List Stmt} {pos : Pos} {Q : Flow → Shared → Prop} (I : Nat → Shared → Prop)
    (turn : ∀ k s, I k s → wpAny (model c.prog c.w) A (isTrue test env (eval test env)) (fun b s₂ => if b then wpAny (model c.prog c.w) A (execs body env) (fun f s₃ => f = .next ∧ ∃ m, m < k ∧ I m s₃) F0 s₂ else Q .next s₂) F0 s)
    (k : Nat) (h : I k s) : wpAny (model c.prog c.w) A (exec (.While test body [] pos) env) Q F0 s := by
  refine wpAny_While (codeAny_whileLoop I (fun k s hI => wpAny_mono (turn k s hI) (fun b s₂ h₂ => ?_) fun _ _ f => f.elim) k h)
  cases b
  · exact wpAny_execs_nil h₂
  · refine wpAny_mono h₂ (fun f s₃ h₃ => ?_) fun _ _ f => f.elim
    obtain ⟨rfl, h₃⟩ := h₃
    exact h₃
end
end Mine
end

section
namespace Mine
open PySem PySem.Calls PyProof.Rows


theorem joinOk_of {sep : Str} {ws : List Str} (hs : sep.length ≤ 1) (hl : ws.length ≤ 1000) (hw : ∀ w ∈ ws, w.length ≤ 1000) : JoinOk sep ws = true := by
  have key : ∀ (ws : List Str) (a : Nat), (∀ w ∈ ws, w.length ≤ 1000) → ws.foldl (fun x y => x + y.length + sep.length) a ≤ a + 1001 * ws.length := by
    intro ws
    induction ws with
    | nil => intro a _; simp
    | cons w ws ih =>
      intro a h
      have h1 := ih (a + w.length + sep.length) fun y hy => h y (.tail _ hy)
      have h2 := h w (.head _)
      simp only [List.foldl_cons, List.length_cons]
      omega
  have h1 := key ws 0 hw
  unfold JoinOk
  rw [List.foldl_toArray]
  generalize List.foldl (fun x y => x + y.length + sep.length) 0 ws = z at *
  have : z ≤ 1001000 := by omega
  show (!decide (z > sizeLine)) = true
  rw [sizeLine_eq]
  simp only [Bool.not_eq_true', decide_eq_false_iff_not]
  omega

noncomputable def wordsOf (runs : List Run) : List Str := runs.map fun r => Txt.mul (ch r.1) (r.2 : Int)
noncomputable def cutsOf (runs : List Run) : List Nat := (List.range runs.length).filter fun i => (runs[i]?.getD (0, 0)).1 == 47
noncomputable def endsF (runs : List Run) : Str × Str :=
  if (cutsOf runs).isEmpty then (e0, Txt.join e0 (wordsOf runs))
  else (Txt.join e0 (if ((wordsOf runs).take ((cutsOf runs).getLast?.getD 0)).isEmpty then (wordsOf runs).take 1 else (wordsOf runs).take ((cutsOf runs).getLast?.getD 0)), Txt.join e0 ((wordsOf runs).drop ((cutsOf runs).getLast?.getD 0 + 1)))
noncomputable def dQr (r : Run) : PyData × PyData := (.str (ch r.1), .int (r.2 : Int))
theorem runs_q (l : List Run) : PyData.list (l.map dRun) = .list ((l.map dQr).map fun q => .tuple [q.1, q.2]) := by rw [List.map_map]; rfl
noncomputable def mulR : PyData → Option PyData | .tuple [.str x, .int k] => some (.str (Txt.mul x k)) | _ => none
theorem words_eq : ∀ l : List Run, ((l.map dQr).filterMap fun q => mulR (.tuple [q.1, q.2])) = (wordsOf l).map PyData.str
  | [] => rfl
  | t :: p => by
    have ih := words_eq p
    simp only [List.map_cons, List.filterMap_cons, mulR, dQr, wordsOf] at ih ⊢
    rw [ih]
noncomputable def cutG (runs : List Run) : PyData → Option PyData | .int k => if (runs[k.toNat]?.getD (0, 0)).1 == 47 then some (.int k) else none | _ => none
theorem cuts_eq (runs : List Run) : ((List.range runs.length).filterMap fun i : Nat => cutG runs (.int (i : Int))) = (cutsOf runs).map dNat := by
  unfold cutsOf dNat
  simp only [cutG, Int.toNat_natCast]
  induction List.range runs.length with
  | nil => rfl
  | cons i l ih =>
    rw [List.filterMap_cons, List.filter_cons, ih]
    by_cases h : ((runs[i]?.getD (0, 0)).1 == 47) = true
    · rw [if_pos h, if_pos h]; rfl
    · rw [if_neg h, if_neg h]
theorem word_len {r : Run} (h : RunOk r) : (Txt.mul (ch r.1) (r.2 : Int)).length ≤ 1000 := by
  rw [mul_ch]; have := h.2.2; show (Array.size _) ≤ 1000; simp; omega
theorem wordsOf_len {l : List Run} (h : ∀ r ∈ l, RunOk r) : ∀ w ∈ wordsOf l, w.length ≤ 1000 := fun w hw => by
  obtain ⟨r, hr, rfl⟩ := List.mem_map.mp hw
  exact word_len (h r hr)

section
variable {c : Cfg} {n : Nat}
set_option maxHeartbeats 1600000 in
theorem ends_spec {runs : List Run} (hr : ∀ r ∈ runs, RunOk r) (hl : runs.length ≤ 20) : FnSpec c 1 78 [.list (runs.map dRun)] (.tuple [.str (endsF runs).1, .str (endsF runs).2]) := by
  refine FnSpec.ofP (x := Str.ofString "runs") (fun pm code doc v => rfl) ?_
  intro A s h₀ L a code hA S
  have X := S.cx.addC (x := Str.ofString "runs") S.res rfl
  have hwl : (wordsOf runs).length = runs.length := by unfold wordsOf; simp
  have hw := wordsOf_len hr
  refine wpAny_execs_cons (S.assignComp (cl := []) (outs := (wordsOf runs).map .str) (words_eq runs ▸ Comp.listT mulR (δ := []) (P := fun b => b ∉ [L]) hA ⟨rfl, rfl, rfl, rfl, rfl⟩ (S.gl.kp S.k0) rfl rfl (by decide) (runs_q runs ▸ Ev.at (Ev.name rfl) hA X) (by simp; omega) Drawn'.nil ?_) ⟨rfl, rfl, rfl, rfl, rfl⟩ rfl fun h₁ t₁ S₁ => ?_)
  · intro q hq C
    obtain ⟨r, hr', rfl⟩ := List.mem_map.mp hq
    refine ⟨rfl, .inl ⟨rfl, rfl⟩, Ev.bin (Bin.mulS (mul_ok _ r.2 (by show 1 ≤ 10; decide) (by have := (hr r hr').2.2; omega))) (Ev.name rfl) (Ev.name rfl)⟩
  have X₁ := S₁.cx.addC (x := Str.ofString "runs") S₁.res rfl
  refine wpAny_execs_cons (S₁.assignComp (s := { s with heap := h₁, toks := t₁ }) (cl := [(Str.ofString "runs", L + 1)]) (outs := (cutsOf runs).map dNat) (cuts_eq runs ▸ Comp.rangeN (cutG runs) (N := runs.length) (δ := [(Str.ofString "runs", .list (runs.map dRun))]) hA ⟨rfl, rfl, rfl, rfl, rfl⟩ (S₁.gl.kp S₁.k0) rfl ?he (by omega) (Drawn'.cell S₁.res rfl fun _ => rfl) ?hb) ⟨rfl, rfl, rfl, rfl, rfl⟩ rfl fun h₂ t₂ S₂ => ?_)
  case he =>
    intro Q q
    exact range_ev (s := { s with heap := h₁, toks := t₁ }) hA X₁ (Ev.lenL (xs := runs.map dRun) (by simp; omega) (Ev.name rfl)) Q (by simpa using q)
  case hb =>
    intro i hi C
    have hri : runs[i]? = some (runs[i]) := List.getElem?_eq_getElem hi
    have hbe : (ch (runs[i]).1 == Str.ofString "/") = ((runs[i]).1 == 47) := by rw [s_sl, ch_beq]
    have hg : cutG runs (.int (i : Int)) = if (runs[i]).1 == 47 then some (.int (i : Int)) else none := by simp only [cutG, Int.toNat_natCast, hri, Option.getD_some]
    rw [hg]
    cases hb : (runs[i]).1 == 47
    · refine .inr ⟨_, rfl, ?_⟩
      exact hb ▸ hbe ▸ Tr.cmp Cmp.eqS (Ev.itemT (d := .str (ch (runs[i]).1)) (Ev.itemL (d := dRun runs[i]) (Ev.name rfl) (Ev.name rfl) (by omega) (by omega) (by simp [hri])) Ev.int (by decide) (by decide) rfl) Ev.str
    · refine ⟨rfl, .inr ⟨_, rfl, ?_⟩, Ev.name rfl⟩
      exact hb ▸ hbe ▸ Tr.cmp Cmp.eqS (Ev.itemT (d := .str (ch (runs[i]).1)) (Ev.itemL (d := dRun runs[i]) (Ev.name rfl) (Ev.name rfl) (by omega) (by omega) (by simp [hri])) Ev.int (by decide) (by decide) rfl) Ev.str
  have hcl : (cutsOf runs).length ≤ 20 := by unfold cutsOf; have := List.length_filter_le (fun i => (runs[i]?.getD (0, 0)).1 == 47) (List.range runs.length); simp at this; omega
  have hcm : ∀ k ∈ cutsOf runs, k ≤ 20 := fun k hk => by unfold cutsOf at hk; have := List.mem_range.mp (List.mem_filter.mp hk).1; omega
  have hj : ∀ {ws : List Str}, (∀ w ∈ ws, w ∈ wordsOf runs) → ws.length ≤ 1000 → JoinOk e0 ws = true := fun h1 h2 => joinOk_of (by decide) h2 fun w hw' => hw w (h1 w hw')
  have e1 : PyData.eqv (.list ((cutsOf runs).map dNat)) (.list []) = (cutsOf runs).isEmpty := by rw [eqv_nil]; simp
  have hsh := shaped_list (lay_nats (cutsOf runs)).1 (by have := (lay_nats (cutsOf runs)).2; omega)
  refine wpAny_execs_cons (S₂.ite (s := { s with heap := h₂, toks := t₂ }) (b := (cutsOf runs).isEmpty) hA (e1 ▸ Tr.cmp (Cmp.eqD hsh shaped_nil) (Ev.name rfl) (Ev.list .nil)) fun h₃ t₃ S₃ => ?_)
  unfold endsF
  cases hb : (cutsOf runs).isEmpty
  · skip
    refine wpAny_execs_nil ?_
    have hlast := last_map dNat hb 0
    have hkm : (cutsOf runs).getLast?.getD 0 ≤ 20 := by
      cases hq : (cutsOf runs).getLast? with
      | none => simp
      | some k => exact hcm k (List.mem_of_getLast? hq)
    generalize (cutsOf runs).getLast?.getD 0 = k at *
    have hkk : ((k : Int) + 1) = ((k + 1 : Nat) : Int) := by omega
    have hE : ∀ l : List Str, (l.map PyData.str).isEmpty = l.isEmpty := fun l => by simp
    have hor : (if (!((wordsOf runs).take k).isEmpty) then PyData.list (((wordsOf runs).map PyData.str).take k) else .list (((wordsOf runs).map PyData.str).take 1)) = .list ((if ((wordsOf runs).take k).isEmpty then (wordsOf runs).take 1 else (wordsOf runs).take k).map PyData.str) := by
      rw [← List.map_take, ← List.map_take]
      cases ((wordsOf runs).take k).isEmpty <;> rfl
    have htk : ((wordsOf runs).take k).length ≤ 20 := by rw [List.length_take]; omega
    have htru : Tru c (.list (((wordsOf runs).map PyData.str).take k)) (!((wordsOf runs).take k).isEmpty) := by
      rw [← List.map_take, ← hE]; exact Tru.list (by rw [List.length_map]; omega)
    have hj1 : JoinOk e0 (if ((wordsOf runs).take k).isEmpty then (wordsOf runs).take 1 else (wordsOf runs).take k) = true := by
      split
      · exact hj (fun w hw' => List.mem_of_mem_take hw') (by rw [List.length_take]; omega)
      · exact hj (fun w hw' => List.mem_of_mem_take hw') (by rw [List.length_take]; omega)
    have hj2 : JoinOk e0 ((wordsOf runs).drop (k + 1)) = true := hj (fun w hw' => List.mem_of_mem_drop hw') (by rw [List.length_drop]; omega)
    refine wpAny_execs_cons (St.ret (s := { s with heap := h₃, toks := t₃ }) (P := fun a => h₀.get? a = none) ((S₃.ev (s := { s with heap := h₃, toks := t₃ }) hA (Ev.tuple (.cons (Ev.join hj1 Ev.str ?_) (.cons (Ev.join hj2 Ev.str ?_) .nil)))).flat rfl) fun v h' tk k r => ⟨h', tk, rfl, S₃.k0.trans k, r⟩)
    · rw [← hor]
      exact Ev.or2 (Ev.sliceToL (k := k) (Ev.name rfl) (Ev.last (Ev.name rfl) hlast) (by rw [sizeLine_eq]; simp; omega)) htru fun _ => Ev.sliceToL (k := 1) (Ev.name rfl) Ev.int (by rw [sizeLine_eq]; simp; omega)
    · rw [List.map_drop]
      exact Ev.sliceFromL (k := k + 1) (Ev.name rfl) (hkk ▸ Ev.bin Bin.addI (Ev.last (Ev.name rfl) hlast) Ev.int) (by rw [sizeLine_eq]; simp; omega)
  · skip
    refine wpAny_execs_cons (St.ret (s := { s with heap := h₃, toks := t₃ }) (P := fun a => h₀.get? a = none) ((S₃.ev (s := { s with heap := h₃, toks := t₃ }) hA (Ev.tuple (.cons Ev.str (.cons (Ev.join (hj (fun _ w => w) (by omega)) Ev.str (Ev.name rfl)) .nil)))).flat rfl) fun v h' tk k r => ⟨h', tk, rfl, S₃.k0.trans k, r⟩)
end
end Mine
end

section
namespace Mine
open PySem PySem.Calls PyProof.Rows

section
variable {c : Cfg} {n : Nat} {env : Env} {X : List Addr} {h₀ g h h' : Heap} {γ : List (Str × PyData)} {fx : List (Str × Value)} {R R' : Heap → Prop} {s : Shared} {A : Around} {a K : Addr} {ds : List PyData} {P : Addr → Prop}
theorem Tr.run {e : Expr} {b : Bool} {Q : Bool → Shared → Prop} (h : Tr c n env γ e b) (hA : AOk n A) (X : Cx c env P s.heap γ) (q : ∀ h' tk, Kp s.heap h' → Q b { s with heap := h', toks := tk }) : wpAny (model c.prog c.w) A (isTrue e env (eval e env)) Q F0 s := h A s P Q hA X q
theorem St.cx0 {x : Str} (S : St c env X h₀ g h γ fx (fun h => R h ∧ Own a ds h)) (hm : (x, .ref a) ∈ fx) (ha : a ∈ X) : Cx c env (fun b => h₀.get? b = none) h [(x, .list ds)] where
  gl := S.gl.kp S.k0
  fr := fun b e => by
    cases q : h₀.get? b with
    | none => rfl
    | some o => rw [S.k0 _ _ q] at e; cases e
  gv := S.gv
  bv := S.bv
  kd := S.kd
  vars := fun y d e => by
    simp only [List.lookup_cons, List.lookup_nil] at e
    split at e
    · rename_i hq
      have hy : y = x := by simpa using hq
      subst hy; cases e
      exact ⟨.ref a, S.raw hm, S.res.2.rd (S.x0 a ha)⟩
    · cases e
theorem Cel.str {x : Str} {P P' : Addr → Prop} (r : Cel K P (.str x) h) : Cel K P' (.str x) h := let ⟨v, h1, h2⟩ := r; ⟨v, h1, h2.flat rfl⟩
theorem Cel.but {x : Str} (r : Cel K P (.str x) h) (hne : K ≠ a) (hs : ∀ b o, b ≠ a → h.get? b = some o → h'.get? b = some o) : Cel K P (.str x) h' := by
  obtain ⟨v, ⟨o, h1, h2⟩, h3⟩ := r
  obtain ⟨t, rfl⟩ := h3.of_str
  exact ⟨_, ⟨o, hs _ _ hne h1, h2⟩, .str _ _⟩
theorem Own.butK (r : Own a ds h) (hne : a ≠ K) (hs : ∀ b o, b ≠ K → h.get? b = some o → h'.get? b = some o) (hK : ∀ o vs n, h.get? K = some o → o.data ≠ .seq vs n) : Own a ds h' := by
  obtain ⟨vs, n, h1, h2⟩ := r
  refine ⟨vs, n, hs _ _ hne h1, h2.sq ⟨fun _ _ _ _ f => f.elim, fun b o vs n e hc hd => hs b o (fun w => by subst w; exact hK _ _ _ e hd) e⟩⟩
end


/-! what a text is read as -/
noncomputable def wf (r : Str) : PyData → Option PyData | .int k => if (tokNum (Txt.slice r none (some k))).isSome then some (.str (Txt.slice r none (some k))) else none | _ => none
noncomputable def wordsAt (r : Str) : List Str := ([3, 2, 1] : List Int).filterMap fun k => if (tokNum (Txt.slice r none (some k))).isSome then some (Txt.slice r none (some k)) else none
theorem wordsAt_eq (r : Str) : [PyData.int 3, .int 2, .int 1].filterMap (wf r) = (wordsAt r).map PyData.str := by
  have key : ∀ l : List Int, (l.map PyData.int).filterMap (wf r) = (l.filterMap fun k => if (tokNum (Txt.slice r none (some k))).isSome then some (Txt.slice r none (some k)) else none).map PyData.str := by
    intro l
    induction l with
    | nil => rfl
    | cons k l ih =>
      rw [List.map_cons, List.filterMap_cons, List.filterMap_cons, ih]
      by_cases h : (tokNum (Txt.slice r none (some k))).isSome
      · simp [wf, h]
      · simp [wf, h]
  exact key [3, 2, 1]
theorem tab_ok : (tokTab.all fun p => PyData.strOk p.1) = true := by decide +kernel
theorem tok_ok {w : Str} (h : (tokNum w).isSome = true) : PyData.strOk w = true := by
  obtain ⟨i, hi⟩ := Option.isSome_iff_exists.mp h
  exact List.all_eq_true.mp tab_ok _ (mem_of_lookup hi)
theorem wordsAt_tok {r w : Str} (h : w ∈ wordsAt r) : (tokNum w).isSome = true := by
  unfold wordsAt at h
  obtain ⟨k, _, hk⟩ := List.mem_filterMap.mp h
  split at hk
  · cases hk; assumption
  · cases hk
theorem lay_strs : ∀ {l : List Str}, (∀ w ∈ l, PyData.strOk w = true) → PyData.canLayAll0 (l.map PyData.str) = true ∧ PyData.depthAll (l.map PyData.str) ≤ 0
  | [], _ => by simp [PyData.canLayAll0, PyData.depthAll]
  | r :: l, h => by
    have ih := lay_strs (l := l) fun q hq => h q (.tail _ hq)
    have hr := h r (.head _)
    simp only [List.map_cons, PyData.canLayAll0, PyData.depthAll, PyData.canLay0, PyData.depth, hr, ih.1]
    refine ⟨by simp, ?_⟩
    have := ih.2
    omega
noncomputable def longA (r : Str) : Int := if (r.length : Int) - ((Txt.lstripChars r (Str.ofString "a")).length : Int) > 1 then (r.length : Int) - ((Txt.lstripChars r (Str.ofString "a")).length : Int) else 1
noncomputable def TokAt (r : Str) (t : Tk) : Prop :=
  (∃ w, (wordsAt r).head? = some w ∧ tokNum w = some (t.1 : Int) ∧ t.2 = w) ∨ (wordsAt r = [] ∧ t = (1, Txt.slice r none (some (longA r))))
noncomputable def ReadsTo : Str → List Tk → Prop
  | r, [] => r = e0
  | r, t :: ts => r ≠ e0 ∧ TokAt r t ∧ t.2.length ≤ 1000 ∧ ReadsTo (Txt.slice r (some (t.2.length : Int)) none) ts
theorem lstrip_le (x y : Str) : (Txt.lstripChars x y).length ≤ x.length := len_lstripChars x y

section
variable {c : Cfg} {n : Nat}
set_option maxHeartbeats 1600000 in
theorem read_spec {text : Str} {toks : List Tk} (hR : ReadsTo text toks) (hl : toks.length ≤ 100) (hx : text.length ≤ 1000) : FnSpec c 1 74 [.str text] (.list ((toks ++ [(0, e0)]).map dTk)) := by
  refine FnSpec.ofC (x := Str.ofString "text") (y := Str.ofString "rest") (fun pm code doc v => rfl) ?_
  intro A s h₀ L a code hA S
  refine wpAny_execs_cons (S.newOwn fun h₁ t₁ o hoX ho0 S₁ => ?_)
  have hoL : o ≠ L := fun w => hoX (w ▸ .tail _ (.head _))
  have hoK : L + 1 ≠ o := fun w => hoX (w ▸ .head _)
  have hKL : L + 1 ≠ L := Nat.succ_ne_self L
  have S₁' := S₁.res' (R' := fun h => Own o [] h ∧ CelAny (L + 1) h) (Own.stb.and CelAny.stb) ⟨S₁.res.2, S₁.res.1⟩
  refine wpAny_execs_cons (St.assignC (s := { s with heap := h₁, toks := t₁ }) S₁' (S₁'.ev (s := { s with heap := h₁, toks := t₁ }) hA (Ev.name (d := .str text) rfl)) rfl rfl (.tail _ (.head _)) hKL Own.stb (fun h h' h1 h2 r => r.butK hoK.symm h1 h2) fun h₂ t₂ S₂ => ?_)
  refine wpAny_execs_cons (while_ (s := { s with heap := h₂, toks := t₂ }) (fun k s' => ∃ (h : Heap) (tk : Nat) (done : List Tk) (rest : Str) (ts : List Tk), s' = { s with heap := h, toks := tk } ∧ toks = done ++ ts ∧ ReadsTo rest ts ∧ k = ts.length ∧ rest.length ≤ 1000 ∧
    St c (envOfC (fnR 74).name (fnR 74).scope L a code) [o, L + 1, L] h₀ h₀ h [] [(Str.ofString "read", .ref o)] (fun h => Cel (L + 1) (fun _ => False) (.str rest) h ∧ Own o (done.map dTk) h)) ?_ toks.length ⟨h₂, t₂, [], text, toks, rfl, rfl, hR, rfl, hx, St.res' (S₂.lessL trivial) (Cel.stb.and Own.stb) ⟨S₂.res.2, S₂.res.1⟩⟩)
  rintro k s' ⟨h, tk, done, rest, ts, rfl, rfl, hrd, rfl, hrl, S⟩
  have hdl : done.length ≤ 100 := by simp at hl; omega
  refine Tr.run (s := { s with heap := h, toks := tk }) (Tr.cmp Cmp.neS (Ev.name (d := .str rest) rfl) Ev.str) hA (S.cx.addC (x := Str.ofString "rest") S.res.1.str rfl) fun h₃ t₃ k₃ => ?_
  have S₃ := S.kp k₃
  cases ts with
  | nil =>
    have hre : rest = e0 := hrd
    subst hre
    have : (e0 != Str.ofString "") = false := by decide
    rw [this]
    skip
    refine wpAny_execs_cons (St.ret (s := { s with heap := h₃, toks := t₃ }) (P := fun a => h₀.get? a = none) (d := .list (((done ++ []) ++ [(0, e0)]).map dTk)) ?_ fun v h'' tk' k r => ⟨h'', tk', rfl, S₃.k0.trans k, r⟩)
    rw [List.append_nil, List.map_append, show List.map dTk [(0, e0)] = [.tuple [.int 0, .str (Str.ofString "")]] from rfl]
    refine Ev.at (s := { s with heap := h₃, toks := t₃ }) ?_ hA (S₃.cx0 (.head _) (.head _))
    exact Ev.bin (Bin.addL (by rw [sizeLine_eq]; simp; omega)) (Ev.name rfl) (Ev.list (.cons (Ev.tuple (.cons Ev.int (.cons Ev.str .nil))) .nil))
  | cons t ts =>
    obtain ⟨hne, hta, htl, hrest⟩ := hrd
    have : (rest != Str.ofString "") = true := by simpa using hne
    rw [this]
    skip
    refine wpAny_execs_cons (S₃.assignComp (s := { s with heap := h₃, toks := t₃ }) (cl := [(Str.ofString "rest", L + 1)]) (outs := (wordsAt rest).map .str) (wordsAt_eq rest ▸ Comp.tupN (wf rest) (P := fun _ => True) (δ := [(Str.ofString "rest", .str rest)]) hA ⟨rfl, rfl, rfl, rfl, rfl⟩ (S₃.gl.kp S₃.k0) rfl ?he (by decide) (Drawn'.cell S₃.res.1 rfl fun _ => rfl) ?hb) ⟨rfl, rfl, rfl, rfl, rfl⟩ rfl fun h₄ t₄ S₄ => ?_)
    case he => exact (S₃.ev (s := { s with heap := h₃, toks := t₃ }) hA (Ev.tuple (.cons Ev.int (.cons Ev.int (.cons Ev.int .nil))))).flat rfl
    case hb =>
      intro d hd C
      obtain ⟨k, rfl⟩ : ∃ k : Int, d = .int k := by
        simp at hd
        rcases hd with rfl | rfl | rfl <;> exact ⟨_, rfl⟩
      have hw : wf rest (.int k) = if (tokNum (Txt.slice rest none (some k))).isSome then some (.str (Txt.slice rest none (some k))) else none := rfl
      rw [hw]
      cases hb : (tokNum (Txt.slice rest none (some k))).isSome
      · refine .inr ⟨_, rfl, ?_⟩
        exact hb ▸ Tr.tabIn (Ev.sliceTo (Ev.name (d := .str rest) rfl) (Ev.name (d := .int k) rfl) (fit _ hrl))
      · refine ⟨rfl, .inr ⟨_, rfl, ?_⟩, Ev.sliceTo (Ev.name (d := .str rest) rfl) (Ev.name (d := .int k) rfl) (fit _ hrl)⟩
        exact hb ▸ Tr.tabIn (Ev.sliceTo (Ev.name (d := .str rest) rfl) (Ev.name (d := .int k) rfl) (fit _ hrl))
    have hsh := shaped_list (lay_strs (l := wordsAt rest) fun w hw => tok_ok (wordsAt_tok hw)).1 (by have := (lay_strs (l := wordsAt rest) fun w hw => tok_ok (wordsAt_tok hw)).2; omega)
    have e1 : PyData.eqv (.list ((wordsAt rest).map .str)) (.list []) = (wordsAt rest).isEmpty := by rw [eqv_nil]; simp
    have R' : ∀ h h' : Heap, (∀ b ob, b ≠ o → h.get? b = some ob → h'.get? b = some ob) → Cel (L + 1) (fun _ => False) (.str rest) h → Cel (L + 1) (fun _ => False) (.str rest) h' := fun h h' h1 r => r.but hoK h1
    refine wpAny_execs_cons ?_
    refine wpAny_mono (Q := fun f s' => f = .next ∧ ∃ (h : Heap) (tk : Nat), s' = { s with heap := h, toks := tk } ∧
      St c (envOfC (fnR 74).name (fnR 74).scope L a code) [o, L + 1, L] h₀ h₀ h [] [(Str.ofString "read", .ref o)] (fun h => Cel (L + 1) (fun _ => False) (.str rest) h ∧ Own o (done.map dTk ++ [dTk t]) h)) ?_ ?_ fun _ _ e => e
    · refine S₄.ite (s := { s with heap := h₄, toks := t₄ }) (b := !(wordsAt rest).isEmpty) hA (e1 ▸ Tr.cmp (Cmp.neD hsh shaped_nil) (Ev.name rfl) (Ev.list .nil)) fun h₅ t₅ S₅ => ?_
      rcases hta with ⟨w, hw1, hw2, hw3⟩ | ⟨hw1, hw2⟩
      · have hem : (wordsAt rest).isEmpty = false := by cases hq : wordsAt rest with | nil => rw [hq] at hw1; cases hw1 | cons => rfl
        have h0 : ((wordsAt rest).map PyData.str)[(0 : Int).toNat]? = some (.str w) := by
          cases hq : wordsAt rest with
          | nil => rw [hq] at hw1; cases hw1
          | cons y l => rw [hq] at hw1; cases hw1; rfl
        rw [hem]
        skip
        refine wpAny_execs_cons (S₅.append (s := { s with heap := h₅, toks := t₅ }) (P := fun b => b ∉ [o, L + 1, L]) (d := dTk t) (.head _) (.head _) hoL (S₅.ev (s := { s with heap := h₅, toks := t₅ }) hA ?_) rfl (by simp; omega) (fun h₆ t₆ S₆ => wpAny_execs_nil ⟨rfl, h₆, t₆, rfl, S₆.lessL trivial⟩) Cel.stb R')
        unfold dTk
        rw [hw3]
        exact Ev.tuple (.cons (Ev.tabItem (Ev.itemL (Ev.name rfl) Ev.int (by decide) (by decide) h0) hw2) (.cons (Ev.itemL (Ev.name rfl) Ev.int (by decide) (by decide) h0) .nil))
      · rw [hw1]
        simp only [List.isEmpty_nil, Bool.not_true, Bool.false_eq_true, if_false]
        have X₅ := (S₅.cx.addC (x := Str.ofString "rest") S₅.res.1.str rfl)
        refine wpAny_execs_cons (S₅.append (s := { s with heap := h₅, toks := t₅ }) (P := fun b => b ∉ [o, L + 1, L]) (d := dTk t) (.head _) (.head _) hoL (Ev.at (s := { s with heap := h₅, toks := t₅ }) ?_ hA X₅) rfl (by simp; omega) (fun h₆ t₆ S₆ => wpAny_execs_nil ⟨rfl, h₆, t₆, rfl, S₆.lessL trivial⟩) Cel.stb R')
        rw [hw2]
        exact Ev.tuple (.cons Ev.int (.cons (Ev.sliceTo (Ev.name (d := .str rest) rfl) (Ev.max Ev.int (Ev.bin Bin.subI (Ev.lenS (fit63 _ hrl) (Ev.name (d := .str rest) rfl)) (Ev.lenS (fit63 _ (Nat.le_trans (lstrip_le _ _) hrl)) (Ev.lstrip (fit _ hrl) (Ev.name (d := .str rest) rfl) Ev.str)))) (fit _ hrl)) .nil))
    · rintro f s' ⟨rfl, h₅, t₅, rfl, S₅⟩
      have S₅' := S₅.res' (R' := fun h => Own o (done.map dTk ++ [dTk t]) h ∧ CelAny (L + 1) h) (Own.stb.and CelAny.stb) ⟨S₅.res.2, S₅.res.1.any⟩
      have X₅ := (S₅.cxO (x := Str.ofString "read") (.head _)).addC (x := Str.ofString "rest") S₅.res.1.str rfl
      refine wpAny_execs_cons (St.assignC (s := { s with heap := h₅, toks := t₅ }) (P := fun _ => True) (d := .str (Txt.slice rest (some (t.2.length : Int)) none)) S₅' (Ev.at (s := { s with heap := h₅, toks := t₅ }) ?_ hA X₅) rfl rfl (.tail _ (.head _)) hKL Own.stb (fun h h' h1 h2 r => r.butK hoK.symm h1 h2) fun h₆ t₆ S₆ => wpAny_execs_nil ?_)
      · exact Ev.sliceFrom (Ev.name (d := .str rest) rfl) (Ev.lenS (fit63 _ htl) (Ev.itemT (d := .str t.2) (Ev.last (d := dTk t) (Ev.name rfl) (by simp)) Ev.int (by decide) (by decide) rfl)) (fit _ hrl)
      · refine ⟨rfl, ts.length, by simp, h₆, t₆, done ++ [t], _, ts, rfl, by simp, hrest, rfl, Nat.le_trans (Txt.slice_le _ _ _) hrl, S₆.res' (Cel.stb.and Own.stb) ⟨S₆.res.2, by simpa using S₆.res.1⟩⟩
end
end Mine
end

section
namespace Mine
open PySem PySem.Calls PyProof.Rows

section
variable {c : Cfg} {n : Nat} {env : Env} {γ : List (Str × PyData)}
theorem Ev.compN {elt iter : Expr} {x : Str} {p pos : Pos} {ifs : List Expr} {scope : Scope} {ds : List PyData} (f : PyData → Option PyData) (ce : CEnv env scope) (hcl : closureFor scope env = pure []) (hx : scope.names.lookup x = some .local)
    (he : Ev c n env γ iter (.list ds)) (hsz : ds.length ≤ 1000)
    (hb : ∀ d ∈ ds, ∀ C, match f d with
      | none => Tests c n (compEnvC scope [] C env) [(x, d)] ifs false
      | some d' => imm d' = true ∧ Tests c n (compEnvC scope [] C env) [(x, d)] ifs true ∧ Ev c n (compEnvC scope [] C env) [(x, d)] elt d')
    (hs : ∀ x, foldedSetIterable iter env x = pure x := by intro _; rfl) : Ev c n env γ (.ListComp elt [⟨.Name x p, iter, ifs, 0⟩] scope pos) (.list (ds.filterMap f)) :=
  fun _ _ _ Q hA X q => Comp.ev (Comp.listN f (δ := []) hA ce X.gl hx (Ev.at he hA X) hsz Drawn'.nil hb) ce hcl X.fr hs Q q
theorem Ev.compT {elt iter : Expr} {x y : Str} {p p' tp pos : Pos} {tk0 : Nat} {ifs : List Expr} {scope : Scope} {ds : List (PyData × PyData)} (f : PyData → Option PyData) (ce : CEnv env scope) (hcl : closureFor scope env = pure [])
    (hx : scope.names.lookup x = some .local) (hy : scope.names.lookup y = some .local) (hxy : (x == y) = false)
    (he : Ev c n env γ iter (.list (ds.map fun q => .tuple [q.1, q.2]))) (hsz : ds.length ≤ 1000)
    (hb : ∀ d ∈ ds, ∀ C, match f (.tuple [d.1, d.2]) with
      | none => Tests c n (compEnvC scope [] C env) [(y, d.2), (x, d.1)] ifs false
      | some d' => imm d' = true ∧ Tests c n (compEnvC scope [] C env) [(y, d.2), (x, d.1)] ifs true ∧ Ev c n (compEnvC scope [] C env) [(y, d.2), (x, d.1)] elt d')
    (hs : ∀ x, foldedSetIterable iter env x = pure x := by intro _; rfl) : Ev c n env γ (.ListComp elt [⟨.Tuple [.Name x p, .Name y p'] tk0 tp, iter, ifs, 0⟩] scope pos) (.list (ds.filterMap fun q => f (.tuple [q.1, q.2]))) :=
  fun _ _ _ Q hA X q => Comp.ev (Comp.listT f (δ := []) hA ce X.gl hx hy hxy (Ev.at he hA X) hsz Drawn'.nil hb) ce hcl X.fr hs Q q
end


noncomputable def drawsOf (ns : List Int) : List Nat := if (ns.take 16).isEmpty then [8, 7, 0, 9, 2, 17, 0, 15] else (ns.take 16).map fun x => x.natAbs % 32
noncomputable def drawF : PyData → Option PyData | .int x => some (.int ((if x < 0 then -x else x).fmod 32)) | _ => none
theorem draw_eq (l : List Int) : (l.map PyData.int).filterMap drawF = (l.map fun x => x.natAbs % 32).map dNat := by
  induction l with
  | nil => rfl
  | cons x l ih =>
    rw [List.map_cons, List.filterMap_cons, List.map_cons, List.map_cons, ← ih]
    simp only [drawF]
    congr 1
    unfold dNat
    congr 1
    have e : (if x < 0 then -x else x) = (x.natAbs : Int) := by
      split
      · exact (Int.ofNat_natAbs_of_nonpos (Int.le_of_lt ‹_›)).symm
      · exact (Int.natAbs_of_nonneg (Int.not_lt.mp ‹_›)).symm
    rw [e, Int.fmod_eq_emod_of_nonneg _ (by decide)]; rfl

noncomputable def textOf (runs : List Run) : Str := Txt.join e0 (wordsOf runs)
noncomputable def rootOf (runs : List Run) : Str := rootF (toldOf runs ++ [(0, e0)])

theorem stepP_all {Pr : Tk → Prop} (h22 : Pr (22, eq1)) {acc : List (List Tk)} {t : Tk} (ht : Pr t) (h : ∀ p ∈ acc, ∀ q ∈ p, Pr q) : ∀ p ∈ stepP acc t, ∀ q ∈ p, Pr q := by
  unfold stepP
  split
  · intro p hp q hq
    rcases List.mem_append.mp hp with hp | hp
    · exact h p hp q hq
    · simp at hp; subst hp; cases hq
  · split
    · intro p hp q hq
      rcases List.mem_append.mp hp with hp | hp
      · exact h p hp q hq
      · simp at hp; subst hp
        have : q = (22, eq1) := by simpa using hq
        subst this; exact h22
    · intro p hp q hq
      rcases List.mem_append.mp hp with hp | hp
      · exact h p (List.dropLast_subset _ hp) q hq
      · simp at hp; subst hp
        rcases List.mem_append.mp hq with hq | hq
        · cases e : acc.getLast? with
          | none => rw [e] at hq; cases hq
          | some p' => rw [e] at hq; exact h p' (List.mem_of_getLast? e) q hq
        · have : q = t := by simpa using hq
          subst this; exact ht
theorem foldP_all {Pr : Tk → Prop} (h22 : Pr (22, eq1)) : ∀ (l : List Tk) (acc : List (List Tk)), (∀ t ∈ l, Pr t) → (∀ p ∈ acc, ∀ q ∈ p, Pr q) → ∀ p ∈ l.foldl stepP acc, ∀ q ∈ p, Pr q
  | [], _, _, h => h
  | t :: l, _, hl, h => foldP_all h22 l _ (fun q hq => hl q (.tail _ hq)) (stepP_all h22 (hl t (.head _)) h)

/-- what the plain law says of the runs -/
structure Law (runs : List Run) : Prop where
  ok : ∀ r ∈ runs, RunOk r
  len : runs.length ≤ 20
  ne : runs ≠ []
  told : toldOf runs ≠ []
  pos : ∀ t ∈ toldOf runs, t.1 ≠ 0
  read : ReadsTo (textOf runs) (toldOf runs)
  size : (textOf runs).length ≤ 1000
  sok : PyData.strOk (textOf runs) = true
  abs : Txt.startswith (textOf runs) sl = (rootOf runs != e0)
  rootl : (rootOf runs).length ≤ 1000
  split : splitrootF (textOf runs) = (rootOf runs, Txt.slice (textOf runs) (some ((rootOf runs).length : Int)) none)
  head : headF (textOf runs) = (endsF runs).1
  tail : tailF (textOf runs) = (endsF runs).2
  hz : (Builtin.Str.partsBetween (splitrootF (textOf runs)).2 (Builtin.Str.occurrences (splitrootF (textOf runs)).2 sl 0 (splitrootF (textOf runs)).2.length ((splitrootF (textOf runs)).2.length + 1)) sl.length).length ≤ sizeLine
  hl : (Txt.split (splitrootF (textOf runs)).2 sl).length ≤ 1000
  hc : ∀ y ∈ Txt.split (splitrootF (textOf runs)).2 sl, y.length ≤ 1000
  hn : (splitrootF (textOf runs)).1.length + (Txt.join sl (normCs (splitrootF (textOf runs)).1 (Txt.split (splitrootF (textOf runs)).2 sl))).length ≤ 1000
  hj : JoinOk sl (normCs (splitrootF (textOf runs)).1 (Txt.split (splitrootF (textOf runs)).2 sl)) = true
  hj2 : JoinOk sl (keptF (rootOf runs) (piecesOf (toldOf runs))) = true
  hn2 : (rootOf runs).length + (Txt.join sl (keptF (rootOf runs) (piecesOf (toldOf runs)))).length ≤ 1000
  rok : PyData.strOk (rootOf runs) = true
  restok : PyData.strOk (Txt.slice (textOf runs) (some ((rootOf runs).length : Int)) none) = true
  e1ok : PyData.strOk (endsF runs).1 = true
  e2ok : PyData.strOk (endsF runs).2 = true
  norm : normF (textOf runs) = normalF (rootOf runs) (piecesOf (toldOf runs))

section
variable {c : Cfg} {n : Nat}
set_option maxHeartbeats 1600000 in
theorem law_body {ns : List Int} (hns : ns.length ≤ 63) (W : Law (runsOf (drawsOf ns))) {A : Around} {s : Shared} {h₀ : Heap} {L a : Addr} {code : Value} (hA : AOk 4 A)
    (S : St c (envOf (fnR 79).name (fnR 79).scope L a code) [L] h₀ h₀ s.heap [(Str.ofString "script", .list (ns.map .int))] [] (fun _ => True)) :
    wpAny (model c.prog c.w) A (execs (fnR 79).body (envOf (fnR 79).name (fnR 79).scope L a code)) (fun f s' => ∃ h' tk, s' = { s with heap := h', toks := tk } ∧ Kp h₀ h' ∧ f = .ret (.bool true) ∧ ∃ m, h'.Ns L m) F0 s := by
  have hdl : (drawsOf ns).length ≤ 100 := by
    unfold drawsOf; split
    · simp
    · rw [List.length_map, List.length_take]; omega
  have hdr : (if (!((ns.take 16).map PyData.int).isEmpty) = true then PyData.list ((ns.take 16).map PyData.int |>.filterMap drawF) else .list [.int 8, .int 7, .int 0, .int 9, .int 2, .int 17, .int 0, .int 15]) = .list ((drawsOf ns).map dNat) := by
    unfold drawsOf
    rw [draw_eq, List.isEmpty_map]
    cases h : (ns.take 16).isEmpty <;> rfl
  refine wpAny_execs_cons (S.assign (S.ev hA (Ev.callF (runs_spec hdl) (by decide) (.cons (hdr ▸ Ev.or2 (Ev.compN drawF ⟨rfl, rfl, rfl, rfl, rfl⟩ rfl rfl (by rw [List.map_take]; exact Ev.sliceToL (k := 16) (Ev.name rfl) Ev.int (by rw [sizeLine_eq]; simp; omega)) (by simp; omega) ?hb) ?ht fun _ => Ev.list (.cons Ev.int (.cons Ev.int (.cons Ev.int (.cons Ev.int (.cons Ev.int (.cons Ev.int (.cons Ev.int (.cons Ev.int .nil))))))))) .nil))) fun h₁ t₁ S₁ => ?_)
  case hb =>
    intro d hd C
    obtain ⟨x, -, rfl⟩ := List.mem_map.mp hd
    exact ⟨rfl, .inl ⟨rfl, rfl⟩, Ev.bin (Bin.modI (by decide)) (Ev.abs (Ev.name rfl)) Ev.int⟩
  case ht =>
    have e : (!((ns.take 16).map PyData.int).isEmpty) = (!(((ns.take 16).map PyData.int).filterMap drawF).isEmpty) := by rw [draw_eq, List.isEmpty_map, List.isEmpty_map, List.isEmpty_map]
    rw [e]
    exact Tru.list (by rw [draw_eq, List.length_map, List.length_map, List.length_take]; omega)
  generalize runsOf (drawsOf ns) = runs at *
  have hwl : (wordsOf runs).length = runs.length := by unfold wordsOf; simp
  have hlen := W.len
  have hjw : JoinOk e0 (wordsOf runs) = true := joinOk_of (by decide) (by omega) (wordsOf_len W.ok)
  have S₁' := S₁.lessL (γ' := [(Str.ofString "runs", .list (runs.map dRun))]) ⟨rfl, trivial⟩
  refine wpAny_execs_cons (S₁'.assign (s := { s with heap := h₁, toks := t₁ }) (d := .str (textOf runs)) (S₁'.ev hA (Ev.join hjw Ev.str ?hc)) fun h₂ t₂ S₂ => ?_)
  case hc =>
    rw [← words_eq]
    refine Ev.compT mulR ⟨rfl, rfl, rfl, rfl, rfl⟩ rfl rfl rfl (by decide) (runs_q runs ▸ Ev.name rfl) (by simp; omega) ?_
    intro q hq C
    obtain ⟨r, hr', rfl⟩ := List.mem_map.mp hq
    exact ⟨rfl, .inl ⟨rfl, rfl⟩, Ev.bin (Bin.mulS (mul_ok _ r.2 (by show 1 ≤ 10; decide) (by have := (W.ok r hr').2.2; omega))) (Ev.name rfl) (Ev.name rfl)⟩
  have htl : (toldOf runs).length ≤ 80 := by have := foldT_len runs [] W.ok; unfold toldOf; simp only [List.length_nil] at this; omega
  have htok : ∀ q ∈ toldOf runs, TkOk 40 q := fun q hq => (foldT_ok runs [] 10 (by decide) W.ok (by simp) q hq).le (by omega)
  have htok' : ∀ q ∈ toldOf runs ++ [(0, e0)], TkOk 40 q := fun q hq => by
    rcases List.mem_append.mp hq with hq | hq
    · exact htok q hq
    · have : q = (0, e0) := by simpa using hq
      subst this; exact ⟨by decide, by decide +kernel, by decide⟩
  have hlay := lay_toks htok'
  have hsh := shaped_list hlay.1 (by have := hlay.2; omega)
  refine wpAny_execs_cons (S₂.assign (s := { s with heap := h₂, toks := t₂ }) (S₂.ev hA (Ev.callF (read_spec W.read (by omega) W.size) (by decide) (.cons (Ev.name rfl) .nil))) fun h₃ t₃ S₃ => ?_)
  have heq1 : (!PyData.eqv (.list ((toldOf runs ++ [(0, e0)]).map dTk)) (.list ((toldOf runs ++ [(0, e0)]).map dTk))) = false := by rw [SeqAt.eqv_refl _ (SeqAt.canLay_of_shaped hsh)]; rfl
  refine wpAny_execs_cons (S₃.ite (s := { s with heap := h₃, toks := t₃ }) (b := false) hA (heq1 ▸ Tr.cmp (Cmp.neD hsh hsh) (Ev.name rfl) (Ev.callF (told_spec W.ok W.len) (by decide) (.cons (Ev.name rfl) .nil))) fun h₄ t₄ S₄ => wpAny_execs_nil ?_)
  obtain ⟨t, r, htr⟩ : ∃ t r, toldOf runs = t :: r := by
    cases h : toldOf runs with
    | nil => exact absurd h W.told
    | cons t r => exact ⟨t, r, rfl⟩
  have hrs : FnSpec c 1 75 [.list ((toldOf runs ++ [(0, e0)]).map dTk)] (.str (rootOf runs)) := by
    unfold rootOf
    rw [htr]
    exact root_spec (by simp)
  refine wpAny_execs_cons (S₄.assign (s := { s with heap := h₄, toks := t₄ }) (S₄.ev hA (Ev.callF hrs (by decide) (.cons (Ev.name rfl) .nil))) fun h₅ t₅ S₅ => ?_)
  have hb0 : ∀ b : Bool, SeqAt.shaped (.bool b) = true := fun b => by cases b <;> decide
  have heq2 : (!PyData.eqv (.bool (Txt.startswith (textOf runs) sl)) (.bool (rootOf runs != Str.ofString ""))) = false := by rw [W.abs, SeqAt.eqv_refl _ rfl]; rfl
  have hs3 : SeqAt.shaped (.tuple [.str e0, .str (rootOf runs), .str (Txt.slice (textOf runs) (some ((rootOf runs).length : Int)) none)]) = true := by
    unfold SeqAt.shaped
    simp only [PyData.canLay0, PyData.canLayAll0, PyData.depth, PyData.depthAll, W.rok, W.restok, show PyData.strOk e0 = true from by decide +kernel]
    rfl
  have heq3 := SeqAt.eqv_refl _ (SeqAt.canLay_of_shaped hs3)
  have hsp : FnSpec c 2 15 [.str (textOf runs)] (.tuple [.str e0, .str (rootOf runs), .str (Txt.slice (textOf runs) (some ((rootOf runs).length : Int)) none)]) := by
    have := splitroot_spec (c := c) W.size
    rw [W.split] at this
    exact this
  refine wpAny_execs_cons (S₅.ite (s := { s with heap := h₅, toks := t₅ }) (b := false || !PyData.eqv (.tuple [.str e0, .str (rootOf runs), .str (Txt.slice (textOf runs) (some ((rootOf runs).length : Int)) none)]) (.tuple [.str e0, .str (rootOf runs), .str (Txt.slice (textOf runs) (some ((rootOf runs).length : Int)) none)])) hA ?_ fun h₆ t₆ S₆ => ?_)
  · refine Tr.or (heq2 ▸ Tr.cmp (Cmp.neD (hb0 _) (hb0 _)) (Ev.callF isabs_spec (by decide) (.cons (Ev.name rfl) .nil)) (Ev.cmp Cmp.neS (Ev.name rfl) Ev.str)) fun _ => Tr.or1 (Tr.cmp (Cmp.neD hs3 hs3) (Ev.callF hsp (by decide) (.cons (Ev.name rfl) .nil)) ?_)
    exact Ev.tuple (.cons Ev.str (.cons (Ev.name rfl) (.cons (Ev.sliceFrom (Ev.name (d := .str (textOf runs)) rfl) (Ev.lenS (fit63 _ W.rootl) (Ev.name (d := .str (rootOf runs)) rfl)) (fit _ W.size)) .nil)))
  rw [heq3]
  refine wpAny_execs_nil ?_
  have hs4 : SeqAt.shaped (.tuple [.str (endsF runs).1, .str (endsF runs).2]) = true := by
    unfold SeqAt.shaped
    simp only [PyData.canLay0, PyData.canLayAll0, PyData.depth, PyData.depthAll, W.e1ok, W.e2ok]
    rfl
  have heq4 := SeqAt.eqv_refl _ (SeqAt.canLay_of_shaped hs4)
  have hspl : FnSpec c 2 14 [.str (textOf runs)] (.tuple [.str (endsF runs).1, .str (endsF runs).2]) := by
    have := split_spec (c := c) W.size
    rw [W.head, W.tail] at this
    exact this
  have hdir : FnSpec c 2 17 [.str (textOf runs)] (.str (endsF runs).1) := by
    have := dirname_spec (c := c) W.size
    rw [W.head] at this
    exact this
  have hbas : FnSpec c 2 16 [.str (textOf runs)] (.str (endsF runs).2) := by
    have := basename_spec (c := c) W.size
    rw [W.tail] at this
    exact this
  have heq4' : (!PyData.eqv (.tuple [.str (endsF runs).1, .str (endsF runs).2]) (.tuple [.str (endsF runs).1, .str (endsF runs).2])) = false := by rw [heq4]; rfl
  refine wpAny_execs_cons (S₆.ite (s := { s with heap := h₆, toks := t₆ }) (b := false || false) hA ?_ fun h₇ t₇ S₇ => wpAny_execs_nil ?_)
  · refine Tr.or (heq4' ▸ Tr.cmp (Cmp.neD hs4 hs4) (Ev.callF hspl (by decide) (.cons (Ev.name rfl) .nil)) (Ev.callF (ends_spec W.ok W.len) (by decide) (.cons (Ev.name rfl) .nil))) fun _ => Tr.or1 (heq4' ▸ Tr.cmp (Cmp.neD hs4 hs4) (Ev.tuple (.cons (Ev.callF hdir (by decide) (.cons (Ev.name rfl) .nil)) (.cons (Ev.callF hbas (by decide) (.cons (Ev.name rfl) .nil)) .nil))) (Ev.callF (ends_spec W.ok W.len) (by decide) (.cons (Ev.name rfl) .nil)))
  have hpl : (piecesOf (toldOf runs)).length ≤ 101 := by
    have := foldP_len (toldOf runs) [[]]
    unfold piecesOf; simp only [List.length_cons, List.length_nil] at this; omega
  have hpi : ∀ p ∈ piecesOf (toldOf runs), p.length ≤ 101 := fun p hp => by
    have := foldP_in (toldOf runs) [[]] 0 (by simp) p hp
    omega
  have hpa : ∀ p ∈ piecesOf (toldOf runs), ∀ q ∈ p, q.2.length ≤ 1000 := foldP_all (Pr := fun q => q.2.length ≤ 1000) (by decide) (toldOf runs) [[]] (fun t ht => by have := (htok t ht).1; omega) (by simp)
  have hpj : ∀ p ∈ piecesOf (toldOf runs), JoinOk e0 (p.map (·.2)) = true := fun p hp => joinOk_of (by decide) (by rw [List.length_map]; have := hpi p hp; omega) fun w hw => by
    obtain ⟨q, hq, rfl⟩ := List.mem_map.mp hw
    exact hpa p hp q hq
  have hsr : (splitrootF (textOf runs)).1.length ≤ 1000 := by rw [W.split]; exact W.rootl
  have hsr2 : (splitrootF (textOf runs)).2.length ≤ 1000 := by rw [W.split]; exact Nat.le_trans (Txt.slice_le _ _ _) W.size
  have hnp : FnSpec c 3 18 [.str (textOf runs)] (.str (normalF (rootOf runs) (piecesOf (toldOf runs)))) := by
    have := normpath_spec (c := c) W.size hsr hsr2 W.hz W.hl W.hc W.hj W.hn
    rw [W.norm] at this
    exact this
  refine wpAny_execs_cons (St.ret (s := { s with heap := h₇, toks := t₇ }) (P := fun a => h₀.get? a = none) (d := .bool true) ((S₇.ev (s := { s with heap := h₇, toks := t₇ }) hA ?_).flat rfl) fun v h' tk k r => ?_)
  · have e : (normalF (rootOf runs) (piecesOf (toldOf runs)) == normalF (rootOf runs) (piecesOf (toldOf runs))) = true := by simp
    exact e ▸ Ev.cmp Cmp.eqS (Ev.callF hnp (by decide) (.cons (Ev.name rfl) .nil)) (Ev.callF (normal_spec hpl hpi hpj W.hj2 W.hn2) (by decide) (.cons (Ev.name rfl) (.cons (Ev.callF (pieces_spec W.pos (by omega)) (by decide) (.cons (Ev.name rfl) .nil)) .nil)))
  · have := r.of_bool
    subst this
    exact ⟨h', tk, rfl, S₇.k0.trans k, rfl, let ⟨m, h1, _⟩ := (S₇.kp k).ns; ⟨m, h1⟩⟩
end
end Mine
end

section
namespace Mine
open PySem PySem.W PySem.Calls PyProof.Rows

/-! the globals, from what the head says of a view -/
noncomputable abbrev lo1 : List Str := [Str.ofString "EXACT_TOKEN_TYPES"]
structure View (q : Program) : Prop where
  fn : ([1, 4, 5, 6, 7, 8, 9, 10, 11, 12, 13, 14, 15, 16, 17, 18] : List Nat).map (fun k => (recsOf q)[k]?) = ([2, 11, 13, 14, 15, 16, 17, 18, 70, 72, 73, 74, 75, 76, 77, 78] : List Nat).map fun i => some (fnR i)
  em : valOf q (Str.ofString "ENDMARKER") = some (.int 0)
  free : (nameTab.all fun p => !(startupNames.contains p.1) && !((looseW q lo1).contains p.1) && !(((recsOf q).map (·.name)).contains p.1) && !(((litsOf q).map (·.1)).contains p.1) && !(((clssOf q (looseW q lo1)).map (·.name)).contains p.1)) = true
theorem View.mem {q : Program} (V : View q) : ∀ i ∈ [2, 11, 13, 14, 15, 16, 17, 18, 70, 72, 73, 74, 75, 76, 77, 78], fnR i ∈ recsOf q := by
  intro i hi
  have h : some (fnR i) ∈ ([2, 11, 13, 14, 15, 16, 17, 18, 70, 72, 73, 74, 75, 76, 77, 78] : List Nat).map fun i => some (fnR i) := List.mem_map.mpr ⟨i, hi, rfl⟩
  rw [← V.fn] at h
  obtain ⟨k, -, e⟩ := List.mem_map.mp h
  exact List.mem_of_getElem? e
theorem rows_tab : tabRows.map (fun r => (r.1, r.2.2.1)) = tokTab := by decide +kernel
theorem rows_keys (P : Params) : ∀ l : List (Str × Tok × Int × Tok), KeysLit P (l.map (rowE P))
  | [] => trivial
  | r :: l => ⟨⟨r.1, r.2.1, rfl, rfl⟩, rows_keys P l⟩
theorem rows_find (P : Params) (k : Str) : ∀ l : List (Str × Tok × Int × Tok), match (l.map fun r => (r.1, r.2.2.1)).lookup k with
    | some i => ∃ t, findBy Value.isStrOf (l.map (rowE P)).toArray k = some (.int i t)
    | none => findBy Value.isStrOf (l.map (rowE P)).toArray k = none
  | [] => rfl
  | r :: l => by
    have ih := rows_find P k l
    unfold findBy at ih ⊢
    simp only [List.find?_toArray] at ih ⊢
    simp only [List.map_cons, List.lookup_cons, List.find?_cons]
    have e : Value.isStrOf k (rowE P r).key = (r.1 == k) := rfl
    rw [e]
    by_cases h : k = r.1
    · subst h
      simp only [beq_self_eq_true]
      exact ⟨_, rfl⟩
    · have h1 : (k == r.1) = false := by simp [h]
      have h2 : (r.1 == k) = false := by simp [Ne.symm h]
      rw [h1, h2]
      exact ih
theorem boot_all : (nameTab.all fun p => decide (bootBuiltins p.1 = some p.2) && !(p.1 == Str.ofString "__name__")) = true := by decide +kernel

theorem frag_one {h : Heap} {a : Addr} {x : Obj} (e : h.get? a = some x) : Frag.In [(a, x)] h := fun b o q => by
  have q' : List.lookup b [(a, x)] = some o := q
  rw [List.lookup_cons, List.lookup_nil] at q'
  by_cases hb : b = a
  · subst hb
    simp only [beq_self_eq_true] at q'
    cases q'; exact e
  · have : (b == a) = false := by simpa using hb
    rw [this] at q'; cases q'
theorem gl_of {w : World} {mg mb : Str → Option Value} {h : Heap} {q : Program} {mean : ExcName → Option Value} (V : View q) (T : Top q (looseW q lo1) mean mg mb h) (Y : hkSays w h) :
    Gl ⟨rwT.row.prog, w, mg, mb⟩ h where
  g := T.g
  b := T.b
  lim := T.nolimit
  fn := fun i hi => T.fn (fnR i) (V.mem i hi)
  tab := by
    refine ⟨144, _, by rw [T.g.eq_nsMap]; exact Y.1, by decide, mapOf_K (frag_one Y.2) (by rfl) (by simpa using rows_keys w.params tabRows), fun k => ?_⟩
    have := rows_find w.params k tabRows
    rw [rows_tab] at this
    exact this
  nm := fun p hp => by
    have h1 := List.all_eq_true.mp V.free p hp
    have h2 := List.all_eq_true.mp boot_all p hp
    simp only [Bool.and_eq_true, Bool.not_eq_true', decide_eq_true_eq] at h1 h2
    obtain ⟨⟨⟨⟨a1, a2⟩, a3⟩, a4⟩, a5⟩ := h1
    have nc : ∀ {l : List Str} {x : Str}, l.contains x = false → x ∉ l := fun h w => by rw [List.contains_iff_mem.mpr w] at h; cases h
    exact ⟨T.free p.1 (nc a1) (nc a2) (nc a3) (nc a4) (nc a5), (T.builtins p.1 (by simpa using h2.2)).trans h2.1⟩
  em := by
    obtain ⟨v, h1, h2⟩ := T.const _ _ V.em
    have := h2 h
    cases this
    exact ⟨_, h1⟩
theorem well_ints {P : Params} {h : Heap} {P' : Addr → Prop} : ∀ {ns : List Int} {vs : List Value}, WellAll P h vs (ofPys (ns.map .int)) → RdAll h P' vs (ns.map .int)
  | [], _, .nil => .nil
  | _ :: _, _, .cons a r => by
    cases a
    exact .cons (.int _ _) (well_ints r)

theorem st_of {w : World} {mg mb : Str → Option Value} {mean : ExcName → Option Value} {s₁ : Shared} {h₁ : Heap} {la fa : Addr} {q : Program} {ns : List Int} {code : Value} (V : View q) (T : Top q (looseW q lo1) mean mg mb s₁.heap) (Y : hkSays w s₁.heap)
    (w1 : Well w.params s₁.heap (.ref la) (ofPy (.list (ns.map .int)))) (F : Fr s₁.heap s₁.heap.objs.size h₁ fun x => List.lookup x [(Str.ofString "script", .ref la)].reverse) :
    St ⟨rwT.row.prog, w, mg, mb⟩ (envOf (fnR 79).name (fnR 79).scope s₁.heap.objs.size fa code) [s₁.heap.objs.size] s₁.heap s₁.heap h₁ [(Str.ofString "script", .list (ns.map .int))] [] (fun _ => True) := by
  have hn0 := new_none s₁.heap
  have k1 : Kp s₁.heap h₁ := F.keep
  have hr : Rd s₁.heap (fun a => ¬ s₁.heap.get? a = none) (.ref la) (.list (ns.map .int)) := by
    have w2 : Well w.params s₁.heap (.ref la) (.list (ofPys (ns.map .int))) := w1
    cases w2 with
    | list h1 h2 => exact .list (by rw [h1]; simp) h1 (well_ints h2)
  refine { gl := gl_of V T Y, k0 := k1, x0 := ?_, hL := .head _, gv := rfl, bv := rfl, kd := rfl, ns := ⟨_, F.ns, ?_, fun p hp => (nomatch hp)⟩, xd := ?_, keep := fun b o _ e => k1 b o e, res := trivial, stb := Stb.true }
  · intro b hb'; simp at hb'; subst hb'; exact hn0
  · intro y dy e
    have : y = Str.ofString "script" ∧ .list (ns.map .int) = dy := by
      simp only [List.lookup_cons, List.lookup_nil] at e
      split at e
      · rename_i hq; exact ⟨by simpa using hq, by injection e⟩
      · cases e
    obtain ⟨rfl, rfl⟩ := this
    exact ⟨rfl, .ref la, by simp, (hr.kp k1).weak fun b hb' hm => by simp at hm; subst hm; exact hb' hn0⟩
  · intro b hb'; simp at hb'; subst hb'
    obtain ⟨o', es, ep, ho', hd', _⟩ := F.ns
    exact ⟨o', ho', fun _ vs n e => by rw [hd'] at e; cases e⟩

theorem post_ok (args ds : List WData) : rwT.row.claim.post args (.bool true) ds = true := by
  show (WShape.has [] (.bool true) .bool && (WTm.eq .res (.lit (.bool true))).holds [] { args := args, res := some (.bool true), after := ds }) = true
  rw [show WShape.has [] (.bool true) .bool = true from by decide +kernel, Bool.true_and]
  simp only [WTm.holds, WTm.value]
  rw [show same (WData.bool true) (WData.bool true) = true from by decide +kernel]
theorem caller_ok (env : Env) : AOk 4 (callerA.deeper env) := AOk.deeper (n := 4) ⟨rfl, by decide, by decide⟩ env
set_option maxHeartbeats 8000000 in
theorem walkT (W : ∀ ns : List Int, ns.length ≤ 63 → Law (runsOf (drawsOf ns))) {q : Program} (V : View q) : WalkO q lo1 (XL q []) (Hook.says hk) rwT.row.toRowW (fnR 79) [] (fun f vs => PySem.call f vs) := by
  w_strict (intro w s₀ s₁ mg mb G Y fa o pm cd doc dV kV ho hd hcd hD hmg hg args vals as hpre hlay hrd hwl hlo; have HY : hkSays w s₁.heap := Y; k_behind G ho hd hcd hD hmg hpre hlay hrd hwl hlo cd; refine wpAny_mono (law_body (c := ⟨_, _, _, _⟩) ?hns (W _ ?hns) ?hA (st_of V (by assumption) (by assumption) (by assumption) (by assumption))) (fun f s' hq => ?hq) (fun _ _ e => e.elim))
  case hns => omega
  case hA => exact caller_ok _
  case hq =>
    obtain ⟨h', tk, rfl, k, rfl, m, hm⟩ := hq
    exact goodW_bool ⟨hm, k, Nat.le_refl _⟩ (by assumption) (fun _ => rfl) (post_ok _ _)
end Mine
end

section
namespace Mine
open PySem PyProof.Rows

/-! texts as lists of signs -/
noncomputable abbrev mk (l : List Nat) : Str := ⟨l.toArray⟩
theorem mk_list (l : List Nat) : (mk l).cps.toList = l := by simp
theorem mk_len (l : List Nat) : (mk l).length = l.length := by simp [Str.length]
theorem mk_inj {a b : List Nat} (h : mk a = mk b) : a = b := by have := congrArg (fun s : Str => s.cps.toList) h; simpa using this
theorem mk_eq_iff {a b : List Nat} : mk a = mk b ↔ a = b := ⟨mk_inj, fun h => by rw [h]⟩
theorem str_mk (x : Str) : x = mk x.cps.toList := by cases x; simp
theorem mk_app (a b : List Nat) : mk a ++ mk b = mk (a ++ b) := by
  show Str.mk (a.toArray ++ b.toArray) = _
  simp
theorem e0_mk : e0 = mk [] := by decide
theorem sl_mk : sl = mk [47] := by decide
theorem sl2_mk : sl2 = mk [47, 47] := by decide
theorem dt_mk : dt = mk [46] := by decide
theorem dd_mk : dd = mk [46, 46] := by decide
theorem eq1_mk : eq1 = mk [61] := by decide
theorem ch_mk (k : Nat) : ch k = mk [k] := rfl

theorem idx_eq {l u : Option Int} {n a b : Nat} (hl : (l = none ∧ a = 0) ∨ ∃ k : Nat, l = some (k : Int) ∧ a = min k n) (hu : (u = none ∧ b = n) ∨ ∃ k : Nat, u = some (k : Int) ∧ b = min k n) :
    Builtin.Str.strSliceIndices l u 1 n = Builtin.Str.strSliceIndices (some (a : Int)) (some (b : Int)) 1 n := by
  have h1 : (1 : Int) > 0 := by decide
  have c0 : ∀ k : Nat, (if ((k : Int) < 0) then (k : Int) + n else k) = k := fun k => by rw [if_neg (by omega)]
  unfold Builtin.Str.strSliceIndices
  rcases hl with ⟨rfl, rfl⟩ | ⟨k, rfl, rfl⟩ <;> rcases hu with ⟨rfl, rfl⟩ | ⟨j, rfl, rfl⟩ <;> simp only [c0, h1, if_true] <;> congr 1 <;> omega
theorem slice_gen (x : List Nat) {l u : Option Int} {a b : Nat} (hl : (l = none ∧ a = 0) ∨ ∃ k : Nat, l = some (k : Int) ∧ a = min k x.length) (hu : (u = none ∧ b = x.length) ∨ ∃ k : Nat, u = some (k : Int) ∧ b = min k x.length) (hab : a ≤ b) :
    Txt.slice (mk x) l u = mk ((x.drop a).take (b - a)) := by
  have hb : b ≤ x.length := by rcases hu with ⟨_, h⟩ | ⟨k, _, h⟩ <;> omega
  have hi : Builtin.Str.strSliceIndices l u 1 (mk x).length = Builtin.Str.strSliceIndices (some (a : Int)) (some (b : Int)) 1 (mk x).length := by rw [mk_len]; exact idx_eq hl hu
  have hp := StrLaws.sliced_plain (mk x) hab (by rw [mk_len]; exact hb)
  unfold Txt.slice
  rw [hi, hp]
  split
  · rename_i h
    rw [StrLaws.strSliceIndices_plain hab (by rw [mk_len]; exact hb)] at h
    simp [mk_len] at h
    have e1 : a = 0 := by omega
    have e2 : b = x.length := by omega
    subst e1; subst e2
    simp
  · rw [mk_list]
theorem slice_to (x : List Nat) (k : Nat) : Txt.slice (mk x) none (some (k : Int)) = mk (x.take k) := by
  rw [slice_gen x (a := 0) (b := min k x.length) (.inl ⟨rfl, rfl⟩) (.inr ⟨k, rfl, rfl⟩) (Nat.zero_le _)]
  have e : (x.drop 0).take (min k x.length - 0) = x.take k := by rw [List.drop_zero, Nat.sub_zero, ← List.take_eq_take_min]
  rw [e]
theorem slice_from (x : List Nat) (k : Nat) : Txt.slice (mk x) (some (k : Int)) none = mk (x.drop k) := by
  rw [slice_gen x (a := min k x.length) (b := x.length) (.inr ⟨k, rfl, rfl⟩) (.inl ⟨rfl, rfl⟩) (Nat.min_le_right _ _)]
  refine congrArg mk ?_
  rcases Nat.le_total k x.length with h | h
  · rw [Nat.min_eq_left h]; exact List.take_of_length_le (by simp)
  · rw [Nat.min_eq_right h, List.drop_of_length_le (Nat.le_refl _), List.drop_of_length_le h]; simp
theorem slice_mid (x : List Nat) (i j : Nat) (hij : i ≤ j) : Txt.slice (mk x) (some (i : Int)) (some (j : Int)) = mk ((x.drop i).take (j - i)) := by
  rw [slice_gen x (a := min i x.length) (b := min j x.length) (.inr ⟨i, rfl, rfl⟩) (.inr ⟨j, rfl, rfl⟩) (by omega)]
  refine congrArg mk ?_
  rcases Nat.le_total i x.length with h | h
  · rw [Nat.min_eq_left h]
    rcases Nat.le_total j x.length with h' | h'
    · rw [Nat.min_eq_left h']
    · rw [Nat.min_eq_right h', List.take_of_length_le (by simp), List.take_of_length_le (by simp; omega)]
  · rw [Nat.min_eq_right h, List.drop_of_length_le (Nat.le_refl _), List.drop_of_length_le h]; simp

theorem beq_mk (a b : List Nat) : (mk a == mk b) = (a == b) := by rw [Bool.eq_iff_iff]; simp
theorem bne_mk (a b : List Nat) : (mk a != mk b) = (a != b) := by unfold bne; rw [beq_mk]

/-! join -/
noncomputable def jn (s : List Nat) : List (List Nat) → List Nat
  | [] => []
  | [x] => x
  | x :: y :: r => x ++ s ++ jn s (y :: r)
theorem join_mk (s : List Nat) : ∀ ls : List (List Nat), Txt.join (mk s) (ls.map mk) = mk (jn s ls) := by
  intro ls
  show Builtin.Str.glued (mk s) (ls.map mk) = _
  rw [StrLaws.glued_eq_join]
  induction ls with
  | nil => rfl
  | cons x r ih =>
    cases r with
    | nil => rfl
    | cons y r =>
      show mk x ++ mk s ++ Str.join (mk s) ((y :: r).map mk) = _
      rw [ih, mk_app, mk_app]; rfl
theorem jn_nil : ∀ ls : List (List Nat), jn [] ls = ls.flatten
  | [] => rfl
  | [x] => by simp [jn]
  | x :: y :: r => by rw [jn, jn_nil (y :: r)]; simp
theorem join_e0 (ls : List (List Nat)) : Txt.join e0 (ls.map mk) = mk ls.flatten := by rw [e0_mk, join_mk, jn_nil]

theorem starts_mk (l : List Nat) : Txt.startswith (mk l) sl = (l.head? == some 47) := by
  rw [sl_mk]
  unfold Txt.startswith
  rw [StrLaws.subAt_eq, mk_list, mk_list, mk_len, mk_len]
  cases l with
  | nil => rfl
  | cons a r => simp
end Mine
end

section
namespace Mine
open PySem PyProof.Rows

/-! the text of the runs -/
noncomputable def cs (runs : List Run) : List Nat := runs.flatMap fun r => List.replicate r.2 r.1
theorem words_mk (runs : List Run) : wordsOf runs = (runs.map fun r => List.replicate r.2 r.1).map mk := by
  unfold wordsOf; rw [List.map_map]; refine List.map_congr_left fun r _ => ?_; exact mul_ch r.1 r.2
theorem text_mk (runs : List Run) : textOf runs = mk (cs runs) := by
  unfold textOf; rw [words_mk, join_e0]; rfl
noncomputable def Al (l : List Nat) : Prop := ∀ k ∈ l, k = 47 ∨ k = 46 ∨ k = 61 ∨ k = 97

/-! the next token, by at most three signs -/
noncomputable def e3 (a b c : Nat) : Option (Nat × Nat) :=
  if a = 47 then (if b = 47 then (if c = 61 then some (48, 3) else some (47, 2)) else if b = 61 then some (39, 2) else some (17, 1))
  else if a = 46 then (if b = 46 ∧ c = 46 then some (52, 3) else some (23, 1))
  else if a = 61 then (if b = 61 then some (27, 2) else some (22, 1))
  else none
noncomputable def exp3 : List Nat → Option (Nat × Nat)
  | [] => none
  | [a] => e3 a 0 0
  | [a, b] => e3 a b 0
  | a :: b :: c :: _ => e3 a b c
noncomputable def abc : List Nat := [47, 46, 61, 97]
noncomputable def all3 : List (List Nat) := abc.map (fun a => [a]) ++ abc.flatMap (fun a => abc.map fun b => [a, b]) ++ abc.flatMap (fun a => abc.flatMap fun b => abc.map fun c => [a, b, c])
noncomputable def wordsL (w : List Nat) : List (List Nat) := [w.take 3, w.take 2, w.take 1].filter fun v => (tokNum (mk v)).isSome
noncomputable def chk (w : List Nat) : Bool := match exp3 w with
  | some (k, n) => (wordsL w).head? == some (w.take n) && tokNum (mk (w.take n)) == some (k : Int)
  | none => (wordsL w).isEmpty
theorem all3_ok : (all3.all chk) = true := by decide +kernel
theorem wordsAt_mk (l : List Nat) : wordsAt (mk l) = (wordsL l).map mk := by
  have e3 : Txt.slice (mk l) none (some 3) = mk (l.take 3) := slice_to l 3
  have e2 : Txt.slice (mk l) none (some 2) = mk (l.take 2) := slice_to l 2
  have e1 : Txt.slice (mk l) none (some 1) = mk (l.take 1) := slice_to l 1
  unfold wordsAt wordsL
  simp only [List.filterMap_cons, List.filterMap_nil, e3, e2, e1, List.filter_cons, List.filter_nil]
  cases (tokNum (mk (l.take 3))).isSome <;> cases (tokNum (mk (l.take 2))).isSome <;> cases (tokNum (mk (l.take 1))).isSome <;> rfl
theorem wordsL_take (l : List Nat) : wordsL (l.take 3) = wordsL l := by
  unfold wordsL; simp [List.take_take]
theorem exp3_take : ∀ l : List Nat, exp3 (l.take 3) = exp3 l
  | [] => rfl
  | [_] => rfl
  | [_, _] => rfl
  | _ :: _ :: _ :: _ => rfl
theorem al_abc {k : Nat} (h : k = 47 ∨ k = 46 ∨ k = 61 ∨ k = 97) : k ∈ abc := by rcases h with rfl | rfl | rfl | rfl <;> simp [abc]
theorem mem3 {l : List Nat} (hne : l ≠ []) (h : Al l) : l.take 3 ∈ all3 := by
  unfold all3
  match l, hne, h with
  | [a], _, h => simp only [List.mem_append]; exact .inl (.inl (List.mem_map.mpr ⟨a, al_abc (h a (by simp)), rfl⟩))
  | [a, b], _, h => simp only [List.mem_append]; exact .inl (.inr (List.mem_flatMap.mpr ⟨a, al_abc (h a (by simp)), List.mem_map.mpr ⟨b, al_abc (h b (by simp)), rfl⟩⟩))
  | a :: b :: c :: r, _, h => simp only [List.mem_append]; exact .inr (List.mem_flatMap.mpr ⟨a, al_abc (h a (by simp)), List.mem_flatMap.mpr ⟨b, al_abc (h b (by simp)), List.mem_map.mpr ⟨c, al_abc (h c (by simp)), rfl⟩⟩⟩)
theorem chk_al {l : List Nat} (hne : l ≠ []) (h : Al l) : chk (l.take 3) = true := List.all_eq_true.mp all3_ok _ (mem3 hne h)

theorem tok_some {l : List Nat} {k n : Nat} (hne : l ≠ []) (h : Al l) (he : exp3 l = some (k, n)) (hn : n ≤ 3) : TokAt (mk l) (k, mk (l.take n)) := by
  have hc := chk_al hne h
  unfold chk at hc
  rw [exp3_take, he] at hc
  simp only [Bool.and_eq_true, beq_iff_eq, wordsL_take, List.take_take, Nat.min_eq_left hn] at hc
  refine .inl ⟨mk (l.take n), ?_, hc.2, rfl⟩
  rw [wordsAt_mk, List.head?_map, hc.1]; rfl
theorem tok_none {l : List Nat} (hne : l ≠ []) (h : Al l) (he : exp3 l = none) : wordsAt (mk l) = [] := by
  have hc := chk_al hne h
  unfold chk at hc
  rw [exp3_take, he] at hc
  simp only [wordsL_take, List.isEmpty_iff] at hc
  rw [wordsAt_mk, hc]; rfl

theorem rt_cons {l : List Nat} {t : Tk} {n : Nat} {ts : List Tk} (hne : l ≠ []) (ht : TokAt (mk l) t) (h2 : t.2 = mk (l.take n)) (hn : n ≤ l.length) (hl : l.length ≤ 1000) (h : ReadsTo (mk (l.drop n)) ts) : ReadsTo (mk l) (t :: ts) := by
  have hlen : t.2.length = n := by rw [h2, mk_len, List.length_take, Nat.min_eq_left hn]
  refine ⟨fun e => hne (mk_inj (e.trans e0_mk)), ht, by omega, ?_⟩
  rw [hlen, slice_from]; exact h
theorem rt_exp {l : List Nat} {k n : Nat} {ts : List Tk} (h : Al l) (he : exp3 l = some (k, n)) (hn : n ≤ 3) (hn' : n ≤ l.length) (hl : l.length ≤ 1000) (hne : l ≠ []) (hr : ReadsTo (mk (l.drop n)) ts) : ReadsTo (mk l) ((k, mk (l.take n)) :: ts) :=
  rt_cons hne (tok_some hne h he hn) rfl hn' hl hr
end Mine
end

section
namespace Mine
open PySem PyProof.Rows

theorem exp3_cons (a : Nat) : ∀ l : List Nat, exp3 (a :: l) = e3 a (l.headD 0) (l.tail.headD 0)
  | [] => rfl
  | [_] => rfl
  | _ :: _ :: _ => rfl
theorem Al.cons {a : Nat} {l : List Nat} (ha : a = 47 ∨ a = 46 ∨ a = 61 ∨ a = 97) (h : Al l) : Al (a :: l) := fun k hk => by
  rcases List.mem_cons.mp hk with rfl | hk
  · exact ha
  · exact h k hk
theorem step1 {a k : Nat} {l : List Nat} {ts : List Tk} (h : Al (a :: l)) (hl : (a :: l).length ≤ 1000) (he : e3 a (l.headD 0) (l.tail.headD 0) = some (k, 1)) (hr : ReadsTo (mk l) ts) : ReadsTo (mk (a :: l)) ((k, mk [a]) :: ts) :=
  rt_exp (l := a :: l) (n := 1) h ((exp3_cons a l).trans he) (by decide) (by simp) hl (by simp) hr
theorem step2 {a b k : Nat} {l : List Nat} {ts : List Tk} (h : Al (a :: b :: l)) (hl : (a :: b :: l).length ≤ 1000) (he : e3 a b (l.headD 0) = some (k, 2)) (hr : ReadsTo (mk l) ts) : ReadsTo (mk (a :: b :: l)) ((k, mk [a, b]) :: ts) :=
  rt_exp (l := a :: b :: l) (n := 2) h ((exp3_cons a _).trans he) (by decide) (by simp) hl (by simp) hr
theorem step3 {a b c k : Nat} {l : List Nat} {ts : List Tk} (h : Al (a :: b :: c :: l)) (hl : (a :: b :: c :: l).length ≤ 1000) (he : e3 a b c = some (k, 3)) (hr : ReadsTo (mk l) ts) : ReadsTo (mk (a :: b :: c :: l)) ((k, mk [a, b, c]) :: ts) :=
  rt_exp (l := a :: b :: c :: l) (n := 3) h ((exp3_cons a _).trans he) (by decide) (by simp) hl (by simp) hr

noncomputable abbrev o47 : (47 : Nat) = 47 ∨ (47 : Nat) = 46 ∨ (47 : Nat) = 61 ∨ (47 : Nat) = 97 := .inl rfl
noncomputable abbrev o46 : (46 : Nat) = 47 ∨ (46 : Nat) = 46 ∨ (46 : Nat) = 61 ∨ (46 : Nat) = 97 := .inr (.inl rfl)
noncomputable abbrev o61 : (61 : Nat) = 47 ∨ (61 : Nat) = 46 ∨ (61 : Nat) = 61 ∨ (61 : Nat) = 97 := .inr (.inr (.inl rfl))
noncomputable abbrev o97 : (97 : Nat) = 47 ∨ (97 : Nat) = 46 ∨ (97 : Nat) = 61 ∨ (97 : Nat) = 97 := .inr (.inr (.inr rfl))

theorem m2 (k : Nat) : Txt.mul (ch k) 2 = mk [k, k] := mul_ch k 2
theorem m3 (k : Nat) : Txt.mul (ch k) 3 = mk [k, k, k] := mul_ch k 3

section
variable {l : List Nat} {ts : List Tk}
theorem rd_dot (h : Al l) (hl : l.length ≤ 900) (hx : l.headD 0 ≠ 46) (hr : ReadsTo (mk l) ts) : ∀ n : Nat, n ≤ 4 → ReadsTo (mk (List.replicate n 46 ++ l)) (toksOf 46 n ++ ts) := by
  have h1 := h.cons o46
  have h2 := h1.cons o46
  have h3 := h2.cons o46
  have h4 := h3.cons o46
  have r1 : ReadsTo (mk (46 :: l)) ((23, mk [46]) :: ts) := step1 h1 (by simp; omega) (by unfold e3; rw [if_neg (by decide), if_pos rfl, if_neg (by omega)]) hr
  have r2 : ReadsTo (mk (46 :: 46 :: l)) ((23, mk [46]) :: (23, mk [46]) :: ts) := step1 h2 (by simp; omega) (by unfold e3; rw [if_neg (by decide), if_pos rfl, if_neg (by show ¬(46 = 46 ∧ l.headD 0 = 46); omega)]) r1
  have r3 : ReadsTo (mk (46 :: 46 :: 46 :: l)) ((52, mk [46, 46, 46]) :: ts) := step3 h3 (by simp; omega) rfl hr
  have r4 : ReadsTo (mk (46 :: 46 :: 46 :: 46 :: l)) ((52, mk [46, 46, 46]) :: (23, mk [46]) :: ts) := step3 h4 (by simp; omega) rfl r1
  intro n hn
  unfold toksOf
  rw [m3]
  match n, hn with
  | 0, _ => exact hr
  | 1, _ => exact r1
  | 2, _ => exact r2
  | 3, _ => exact r3
  | 4, _ => exact r4
theorem rd_eq (h : Al l) (hl : l.length ≤ 900) (hx : l.headD 0 ≠ 61) (hr : ReadsTo (mk l) ts) : ∀ n : Nat, n ≤ 4 → ReadsTo (mk (List.replicate n 61 ++ l)) (toksOf 61 n ++ ts) := by
  have h1 := h.cons o61
  have h2 := h1.cons o61
  have h3 := h2.cons o61
  have h4 := h3.cons o61
  have r1 : ReadsTo (mk (61 :: l)) ((22, mk [61]) :: ts) := step1 h1 (by simp; omega) (by unfold e3; rw [if_neg (by decide), if_neg (by decide), if_pos rfl, if_neg hx]) hr
  have r2 : ReadsTo (mk (61 :: 61 :: l)) ((27, mk [61, 61]) :: ts) := step2 h2 (by simp; omega) rfl hr
  have r3 : ReadsTo (mk (61 :: 61 :: 61 :: l)) ((27, mk [61, 61]) :: (22, mk [61]) :: ts) := step2 h3 (by simp; omega) rfl r1
  have r4 : ReadsTo (mk (61 :: 61 :: 61 :: 61 :: l)) ((27, mk [61, 61]) :: (27, mk [61, 61]) :: ts) := step2 h4 (by simp; omega) rfl r2
  intro n hn
  unfold toksOf
  rw [m2 61]
  match n, hn with
  | 0, _ => exact hr
  | 1, _ => exact r1
  | 2, _ => exact r2
  | 3, _ => exact r3
  | 4, _ => exact r4
theorem rd_sl (h : Al l) (hl : l.length ≤ 900) (hx : l.headD 0 ≠ 47) (hy : l.headD 0 ≠ 61) (hr : ReadsTo (mk l) ts) : ∀ n : Nat, n ≤ 4 → ReadsTo (mk (List.replicate n 47 ++ l)) (toksOf 47 n ++ ts) := by
  have h1 := h.cons o47
  have h2 := h1.cons o47
  have h3 := h2.cons o47
  have h4 := h3.cons o47
  have r1 : ReadsTo (mk (47 :: l)) ((17, mk [47]) :: ts) := step1 h1 (by simp; omega) (by unfold e3; rw [if_pos rfl, if_neg hx, if_neg hy]) hr
  have r2 : ReadsTo (mk (47 :: 47 :: l)) ((47, mk [47, 47]) :: ts) := step2 h2 (by simp; omega) (by unfold e3; rw [if_pos rfl, if_pos rfl, if_neg hy]) hr
  have r3 : ReadsTo (mk (47 :: 47 :: 47 :: l)) ((47, mk [47, 47]) :: (17, mk [47]) :: ts) := step2 h3 (by simp; omega) rfl r1
  have r4 : ReadsTo (mk (47 :: 47 :: 47 :: 47 :: l)) ((47, mk [47, 47]) :: (47, mk [47, 47]) :: ts) := step2 h4 (by simp; omega) rfl r2
  intro n hn
  unfold toksOf
  rw [m2 47]
  match n, hn with
  | 0, _ => exact hr
  | 1, _ => exact r1
  | 2, _ => exact r2
  | 3, _ => exact r3
  | 4, _ => exact r4
theorem rd_sleq (h : Al l) (hl : l.length ≤ 900) (hr : ReadsTo (mk l) ts) : ∀ n : Nat, 1 ≤ n → n ≤ 4 → ReadsTo (mk (List.replicate n 47 ++ 61 :: l)) (mergeT (toksOf 47 n) ++ ts) := by
  have h0 := h.cons o61
  have h1 := h0.cons o47
  have h2 := h1.cons o47
  have h3 := h2.cons o47
  have h4 := h3.cons o47
  have r1 : ReadsTo (mk (47 :: 61 :: l)) ((39, mk [47, 61]) :: ts) := step2 h1 (by simp; omega) rfl hr
  have r2 : ReadsTo (mk (47 :: 47 :: 61 :: l)) ((48, mk [47, 47, 61]) :: ts) := step3 h2 (by simp; omega) rfl hr
  have r3 : ReadsTo (mk (47 :: 47 :: 47 :: 61 :: l)) ((47, mk [47, 47]) :: (39, mk [47, 61]) :: ts) := step2 h3 (by simp; omega) rfl r1
  have r4 : ReadsTo (mk (47 :: 47 :: 47 :: 47 :: 61 :: l)) ((47, mk [47, 47]) :: (48, mk [47, 47, 61]) :: ts) := step2 h4 (by simp; omega) rfl r2
  intro n hn0 hn
  unfold toksOf mergeT
  rw [m2 47, eq1_mk]
  match n, hn0, hn with
  | 1, _, _ => exact r1
  | 2, _, _ => exact r2
  | 3, _, _ => exact r3
  | 4, _, _ => exact r4
end
end Mine
end

section
namespace Mine
open PySem PyProof.Rows

theorem tw_rep (n : Nat) (l : List Nat) (p : Nat → Bool) (hp : p 97 = true) (hl : l.takeWhile p = []) : (List.replicate n 97 ++ l).takeWhile p = List.replicate n 97 := by
  induction n with
  | zero => exact hl
  | succ n ih => rw [List.replicate_succ, List.cons_append, List.takeWhile_cons, if_pos hp, ih]
theorem a_mk : Str.ofString "a" = mk [97] := by decide
theorem lstrip_len (n : Nat) (l : List Nat) (hx : l.headD 0 ≠ 97) : (Txt.lstripChars (mk (List.replicate n 97 ++ l)) (Str.ofString "a")).length = l.length := by
  unfold Txt.lstripChars
  rw [stripBy_eq, a_mk]
  have hlo : stripLo (mk [97]).cps.contains true (mk (List.replicate n 97 ++ l)) = n := by
    unfold stripLo
    rw [if_pos rfl, mk_list, tw_rep n l _ (by simp)]
    · simp
    · cases l with
      | nil => rfl
      | cons a r =>
        rw [List.takeWhile_cons]
        have : (mk [97]).cps.contains a = false := by
          have ha : a ≠ 97 := hx
          simp [ha]
        rw [this]; rfl
  rw [hlo]
  have hhi : stripHi (mk [97]).cps.contains false (mk (List.replicate n 97 ++ l)) n = n + l.length := by
    unfold stripHi
    rw [if_neg (by decide), mk_len]; simp
  rw [hhi]
  show (Builtin.Str.strSub _ _ _).cps.size = _
  rw [← Array.length_toList, StrLaws.strSub_toList, mk_list]
  simp
theorem rd_a {l : List Nat} {ts : List Tk} (h : Al l) (hl : l.length ≤ 900) (hx : l.headD 0 ≠ 97) (hr : ReadsTo (mk l) ts) (n : Nat) (hn0 : 1 ≤ n) (hn : n ≤ 4) : ReadsTo (mk (List.replicate n 97 ++ l)) (toksOf 97 n ++ ts) := by
  have hA : Al (List.replicate n 97 ++ l) := fun k hk => by
    rcases List.mem_append.mp hk with hk | hk
    · rw [List.eq_of_mem_replicate hk]; exact o97
    · exact h k hk
  have hne : List.replicate n 97 ++ l ≠ [] := by
    obtain ⟨m, rfl⟩ : ∃ m, n = m + 1 := ⟨n - 1, by omega⟩
    simp [List.replicate_succ]
  have hlong : longA (mk (List.replicate n 97 ++ l)) = (n : Int) := by
    unfold longA
    rw [lstrip_len n l hx, mk_len, List.length_append, List.length_replicate]
    split <;> omega
  have he : exp3 (List.replicate n 97 ++ l) = none := by
    obtain ⟨m, rfl⟩ : ∃ m, n = m + 1 := ⟨n - 1, by omega⟩
    rw [List.replicate_succ, List.cons_append, exp3_cons]; rfl
  have ht : toksOf 97 n = [(1, mk (List.replicate n 97))] := by
    unfold toksOf; rw [if_pos rfl, mul_ch]
  rw [ht]
  refine rt_cons (n := n) hne (.inr ⟨tok_none hne hA he, ?_⟩) ?_ (by simp) (by simp; omega) ?_
  · rw [hlong, slice_to, List.take_left' (by simp)]
  · rw [List.take_left' (by simp)]
  · rw [List.drop_left' (by simp)]; exact hr

/-! the tokens from the front -/
noncomputable def F : List Run → List Tk
  | [] => []
  | [r] => toksOf r.1 r.2
  | r :: q :: rest => if r.1 = 47 ∧ q.1 = 61 then mergeT (toksOf 47 r.2) ++ (toksOf 61 (q.2 - 1) ++ F rest) else toksOf r.1 r.2 ++ F (q :: rest)
noncomputable def Adj : List Run → Prop
  | r :: q :: rest => r.1 ≠ q.1 ∧ Adj (q :: rest)
  | _ => True
theorem Adj.tail {r : Run} {l : List Run} (h : Adj (r :: l)) : Adj l := by
  cases l with
  | nil => trivial
  | cons q l => exact h.2

theorem cs_cons (r : Run) (l : List Run) : cs (r :: l) = List.replicate r.2 r.1 ++ cs l := by simp [cs]
theorem cs_al {l : List Run} (h : ∀ r ∈ l, RunOk r) : Al (cs l) := fun k hk => by
  unfold cs at hk
  obtain ⟨r, hr, hk⟩ := List.mem_flatMap.mp hk
  rw [List.eq_of_mem_replicate hk]
  exact (h r hr).1
theorem cs_len {l : List Run} (h : ∀ r ∈ l, RunOk r) : (cs l).length ≤ 4 * l.length := by
  induction l with
  | nil => simp [cs]
  | cons r l ih =>
    rw [cs_cons, List.length_append, List.length_replicate, List.length_cons]
    have := ih fun q hq => h q (.tail _ hq)
    have := (h r (.head _)).2.2
    omega
theorem cs_head {r : Run} {l : List Run} (h : RunOk r) : (cs (r :: l)).headD 0 = r.1 := by
  obtain ⟨m, hm⟩ : ∃ m, r.2 = m + 1 := ⟨r.2 - 1, by have := h.2.1; omega⟩
  rw [cs_cons, hm, List.replicate_succ]; rfl

theorem rd_run {r : Run} {l : List Nat} {ts : List Tk} (hr : RunOk r) (h : Al l) (hl : l.length ≤ 900) (hx : l.headD 0 ≠ r.1) (hy : r.1 = 47 → l.headD 0 ≠ 61) (hrd : ReadsTo (mk l) ts) : ReadsTo (mk (List.replicate r.2 r.1 ++ l)) (toksOf r.1 r.2 ++ ts) := by
  obtain ⟨k, n⟩ := r
  obtain ⟨h1, h2, h3⟩ := hr
  simp only at h1 h2 h3 hx hy ⊢
  rcases h1 with rfl | rfl | rfl | rfl
  · exact rd_sl h hl hx (hy rfl) hrd n h3
  · exact rd_dot h hl hx hrd n h3
  · exact rd_eq h hl hx hrd n h3
  · exact rd_a h hl hx hrd n h2 h3

theorem read_F : ∀ (runs : List Run), (∀ r ∈ runs, RunOk r) → Adj runs → runs.length ≤ 100 → ReadsTo (mk (cs runs)) (F runs)
  | [], _, _, _ => e0_mk.symm
  | [r], h, _, _ => by
    have := rd_run (r := r) (l := []) (ts := []) (h r (.head _)) (fun _ hk => nomatch hk) (by simp) (by
      have := (h r (.head _)).1
      show 0 ≠ r.1
      rcases this with e | e | e | e <;> rw [e] <;> decide) (fun _ => by decide) e0_mk.symm
    rw [List.append_nil (toksOf r.1 r.2)] at this
    rw [cs_cons]; exact this
  | r :: q :: rest, h, ha, hl => by
    have hr := h r (.head _)
    have hq := h q (.tail _ (.head _))
    have hrest : ∀ x ∈ rest, RunOk x := fun x hx => h x (.tail _ (.tail _ hx))
    simp only [List.length_cons] at hl
    unfold F
    split
    · rename_i he
      obtain ⟨m, hm⟩ : ∃ m, q.2 = m + 1 := ⟨q.2 - 1, by have := hq.2.1; omega⟩
      have ih := read_F rest hrest ha.tail.tail (by omega)
      have hlr := cs_len hrest
      have h61 : (cs rest).headD 0 ≠ 61 := by
        cases rest with
        | nil => decide
        | cons x rest =>
          rw [cs_head (hrest x (.head _))]
          have := ha.2.1
          rw [he.2] at this
          exact this.symm
      have r1 := rd_eq (cs_al hrest) (by omega) h61 ih m (by have := hq.2.2; omega)
      have hal : Al (List.replicate m 61 ++ cs rest) := fun k hk => by
        rcases List.mem_append.mp hk with hk | hk
        · rw [List.eq_of_mem_replicate hk]; exact o61
        · exact cs_al hrest k hk
      have r2 := rd_sleq hal (by rw [List.length_append, List.length_replicate]; have := hq.2.2; omega) r1 r.2 hr.2.1 hr.2.2
      rw [cs_cons, cs_cons, he.1, he.2, hm, List.replicate_succ, List.cons_append]
      exact r2
    · rename_i he
      have hqr : ∀ x ∈ q :: rest, RunOk x := fun x hx => h x (.tail _ hx)
      have ih := read_F (q :: rest) hqr ha.2 (by simp; omega)
      have hlr := cs_len hqr
      rw [cs_cons]
      refine rd_run hr (cs_al hqr) (by simp at hlr; omega) (by rw [cs_head hq]; exact ha.1.symm) (fun e => ?_) ih
      rw [cs_head hq]
      exact fun w => he ⟨e, w⟩
end Mine
end

section
namespace Mine
open PySem PyProof.Rows

/-- the last token's number -/
noncomputable def lastNum (l : List Tk) : Option Nat := l.getLast?.map (·.1)
theorem last_47 {n : Nat} (h1 : 1 ≤ n) (h2 : n ≤ 4) : lastNum (toksOf 47 n) = some 17 ∨ lastNum (toksOf 47 n) = some 47 := by
  match n, h1, h2 with
  | 1, _, _ => exact .inl rfl
  | 2, _, _ => exact .inr rfl
  | 3, _, _ => exact .inl rfl
  | 4, _, _ => exact .inr rfl
theorem last_46 {n : Nat} (h1 : 1 ≤ n) (h2 : n ≤ 4) : lastNum (toksOf 46 n) = some 23 ∨ lastNum (toksOf 46 n) = some 52 := by
  match n, h1, h2 with
  | 1, _, _ => exact .inl rfl
  | 2, _, _ => exact .inl rfl
  | 3, _, _ => exact .inr rfl
  | 4, _, _ => exact .inl rfl
theorem last_97 {n : Nat} : lastNum (toksOf 97 n) = some 1 := rfl
theorem last_app {a b : List Tk} {k : Nat} (h : lastNum b = some k) : lastNum (a ++ b) = some k := by
  unfold lastNum at *
  rw [List.getLast?_append]
  cases hb : b.getLast? with
  | none => rw [hb] at h; cases h
  | some x => rw [hb] at h; exact h
theorem meets_eq (a : List Tk) (s : Nat) : meets a s = (s == 61 && (lastNum a == some 17 || lastNum a == some 47)) := by
  unfold meets lastNum
  cases h : a.getLast? with
  | none =>
    have : a = [] := by simpa using h
    subst this; simp
  | some x =>
    have : a.isEmpty = false := by
      cases a with
      | nil => cases h
      | cons => rfl
    simp [this]
theorem merge_app {a b : List Tk} (h : b ≠ []) : mergeT (a ++ b) = a ++ mergeT b := by
  unfold mergeT
  rw [List.getLast?_append]
  cases hb : b.getLast? with
  | none => exact absurd (by simpa using hb) h
  | some x =>
    simp only [Option.some_or]
    rw [List.dropLast_append_of_ne_nil h, List.append_assoc]
theorem tok_ne {s n : Nat} (h1 : 1 ≤ n) : toksOf s n ≠ [] := by
  unfold toksOf
  split
  · simp
  · split
    · intro w
      have := congrArg List.length w
      simp at this
      omega
    · split
      · intro w
        have := congrArg List.length w
        simp at this
        omega
      · intro w
        have := congrArg List.length w
        simp at this
        omega

theorem fold_F : ∀ (runs : List Run) (acc : List Tk), (∀ r ∈ runs, RunOk r) → Adj runs → (∀ r, runs.head? = some r → meets acc r.1 = false) → runs.foldl stepT acc = acc ++ F runs
  | [], acc, _, _, _ => by simp [F]
  | [r], acc, _, _, hm => by
    show stepT acc r = acc ++ toksOf r.1 r.2
    unfold stepT; rw [hm r rfl]; rfl
  | r :: q :: rest, acc, h, ha, hm => by
    have hr := h r (.head _)
    have hq := h q (.tail _ (.head _))
    have e1 : stepT acc r = acc ++ toksOf r.1 r.2 := by unfold stepT; rw [hm r rfl]; rfl
    unfold F
    split
    · rename_i he
      have e2 : stepT (acc ++ toksOf 47 r.2) q = acc ++ mergeT (toksOf 47 r.2) ++ toksOf 61 (q.2 - 1) := by
        unfold stepT
        have : meets (acc ++ toksOf 47 r.2) q.1 = true := by
          rw [meets_eq, he.2]
          rcases last_47 hr.2.1 hr.2.2 with e | e
          · rw [last_app e]; rfl
          · rw [last_app e]; rfl
        rw [this, if_pos rfl, merge_app (tok_ne hr.2.1), he.2]
      rw [List.foldl_cons, List.foldl_cons, e1, he.1, e2, fold_F rest _ (fun x hx => h x (.tail _ (.tail _ hx))) ha.tail.tail]
      · simp
      · intro x hx
        cases rest with
        | nil => cases hx
        | cons y rest =>
          cases hx
          have := ha.2.1
          rw [he.2] at this
          rw [meets_eq, beq_false_of_ne this.symm]; rfl
    · rename_i he
      rw [List.foldl_cons, e1, fold_F (q :: rest) _ (fun x hx => h x (.tail _ hx)) ha.2]
      · simp
      · intro x hx
        cases hx
        rw [meets_eq]
        by_cases hq61 : q.1 = 61
        · have hne := ha.1
          rw [hq61] at hne
          have h47 : r.1 ≠ 47 := fun w => he ⟨w, hq61⟩
          rcases hr.1 with w | w | w | w
          · exact absurd w h47
          · rw [w]
            rcases last_46 hr.2.1 hr.2.2 with e | e
            · rw [last_app e]; simp
            · rw [last_app e]; simp
          · exact absurd w hne
          · rw [w, last_app last_97]; simp
        · rw [beq_false_of_ne hq61]; rfl
theorem told_F {runs : List Run} (h : ∀ r ∈ runs, RunOk r) (ha : Adj runs) : toldOf runs = F runs := by
  unfold toldOf
  rw [fold_F runs [] h ha (fun r _ => by rw [meets_eq]; simp [lastNum])]
  rfl

/-! the runs -/
theorem stepR_adj : ∀ (acc : List Run) (x : Nat), Adj acc → Adj (stepR acc x) := by
  have app : ∀ (acc : List Run) (r : Run), Adj acc → (acc.isEmpty = false → (acc.getLast?.getD (0, 0)).1 ≠ r.1) → Adj (acc ++ [r]) := by
    intro acc
    induction acc with
    | nil => intro r _ _; trivial
    | cons a acc ih =>
      intro r ha hl
      cases acc with
      | nil => exact ⟨hl rfl, trivial⟩
      | cons b acc =>
        refine ⟨ha.1, ih r ha.2 fun _ => ?_⟩
        have := hl rfl
        rwa [List.getLast?_cons_cons] at this
  intro acc x ha
  unfold stepR
  split
  · rename_i h
    refine app acc _ ha fun he => ?_
    rw [he] at h
    simpa using h
  · exact ha
theorem foldR_adj : ∀ (l : List Nat) (acc : List Run), Adj acc → Adj (l.foldl stepR acc)
  | [], _, h => h
  | x :: l, acc, h => foldR_adj l _ (stepR_adj acc x h)
theorem foldR_ne : ∀ (l : List Nat) (acc : List Run), acc ≠ [] → l.foldl stepR acc ≠ []
  | [], _, h => h
  | x :: l, acc, h => foldR_ne l _ (by unfold stepR; split <;> simp [h])
theorem runsOf_adj (l : List Nat) : Adj (runsOf l) := foldR_adj l [] trivial
theorem runsOf_ne {l : List Nat} (h : l ≠ []) : runsOf l ≠ [] := by
  cases l with
  | nil => exact absurd rfl h
  | cons x l => exact foldR_ne l _ (by simp [stepR])
theorem F_ne : ∀ {runs : List Run}, (∀ r ∈ runs, RunOk r) → runs ≠ [] → F runs ≠ []
  | [], _, h => absurd rfl h
  | [r], h, _ => tok_ne (h r (.head _)).2.1
  | r :: q :: rest, h, _ => by
    have hr := h r (.head _)
    unfold F
    split
    · intro w
      have h1 := (List.append_eq_nil_iff.mp w).1
      have h2 := congrArg List.length h1
      rw [mergeT_len] at h2
      exact tok_ne hr.2.1 (List.length_eq_zero_iff.mp h2)
    · intro w
      exact tok_ne hr.2.1 (List.append_eq_nil_iff.mp w).1
end Mine
end

section
namespace Mine
open PySem PyProof.Rows

/-! the root -/
noncomputable def rootL : List Run → List Nat
  | [] => []
  | r :: _ => if r.1 = 47 then (if r.2 = 2 then [47, 47] else [47]) else []
noncomputable def headNum (l : List Tk) : Nat := (l.head?.getD (0, e0)).1
theorem headNum_app {a b : List Tk} (h : a ≠ []) : headNum (a ++ b) = headNum a := by
  cases a with
  | nil => exact absurd rfl h
  | cons x a => rfl
theorem tok_head {r : Run} (h : RunOk r) (h47 : r.1 ≠ 47) : isSl (headNum (toksOf r.1 r.2)) = false := by
  obtain ⟨s, n⟩ := r
  obtain ⟨h1, h2, h3⟩ := h
  simp only at *
  rcases h1 with rfl | rfl | rfl | rfl
  · exact absurd rfl h47
  · match n, h2, h3 with
    | 1, _, _ => rfl
    | 2, _, _ => rfl
    | 3, _, _ => rfl
    | 4, _, _ => rfl
  · match n, h2, h3 with
    | 1, _, _ => rfl
    | 2, _, _ => rfl
    | 3, _, _ => rfl
    | 4, _, _ => rfl
  · rfl
theorem F_head {r : Run} {rest : List Run} (h : RunOk r) (h47 : r.1 ≠ 47) (e : List Tk) : isSl (headNum (F (r :: rest) ++ e)) = false := by
  cases rest with
  | nil =>
    show isSl (headNum (toksOf r.1 r.2 ++ e)) = false
    rw [headNum_app (tok_ne h.2.1)]; exact tok_head h h47
  | cons q rest =>
    have : F (r :: q :: rest) = toksOf r.1 r.2 ++ F (q :: rest) := by
      rw [F, if_neg (fun w => h47 w.1)]
    rw [this, List.append_assoc, headNum_app (tok_ne h.2.1)]; exact tok_head h h47
theorem rootF_no {l : List Tk} (hne : l ≠ []) (h : isSl (headNum l) = false) : rootF l = e0 := by
  cases l with
  | nil => exact absurd rfl hne
  | cons t r =>
    have h' : isSl t.1 = false := h
    show (if !isSl t.1 then e0 else _) = e0
    rw [h']; rfl
theorem root_L {runs : List Run} (h : ∀ r ∈ runs, RunOk r) (ha : Adj runs) (hne : runs ≠ []) : rootOf runs = mk (rootL runs) := by
  unfold rootOf
  rw [told_F h ha]
  match runs, h, ha, hne with
  | (s, n) :: rest, h, ha, _ =>
    have hr := h _ (.head _)
    by_cases h47 : s = 47
    · subst h47
      have h1 := hr.2.1
      have h2 := hr.2.2
      simp only at h1 h2
      have nx : ∀ (q : Run) (rest : List Run), (∀ r ∈ ((47, n) : Run) :: q :: rest, RunOk r) → Adj ((47, n) :: q :: rest) → isSl (headNum (F (q :: rest) ++ [(0, e0)])) = false := fun q rest h ha => F_head (h q (.tail _ (.head _))) (fun w => ha.1 w.symm) _
      have tl : ∀ e : List Tk, isSl (headNum e) = false → rootF (toksOf 47 n ++ e) = mk (rootL ((47, n) :: rest)) := fun e he => by
        have he' : isSl (e.head?.getD (0, e0)).1 = false := he
        match n, h1, h2 with
        | 1, _, _ => exact sl_mk
        | 2, _, _ =>
          show (if (!isSl 47) = true then e0 else if ((47 : Nat) == 48 || ((47 : Nat) == 47 && !isSl (e.head?.getD (0, e0)).1)) = true then sl2 else sl) = _
          rw [he', show rootL ((47, 2) :: rest) = [47, 47] from rfl]; decide
        | 3, _, _ => exact sl_mk
        | 4, _, _ => exact sl_mk
      have mg : ∀ e : List Tk, rootF (mergeT (toksOf 47 n) ++ e) = mk (rootL ((47, n) :: rest)) := fun e => by
        match n, h1, h2 with
        | 1, _, _ => exact sl_mk
        | 2, _, _ => exact sl2_mk
        | 3, _, _ => exact sl_mk
        | 4, _, _ => exact sl_mk
      cases rest with
      | nil => exact tl _ rfl
      | cons q rest =>
        by_cases hq : q.1 = 61
        · rw [F, if_pos ⟨rfl, hq⟩, List.append_assoc]; exact mg _
        · rw [F, if_neg (fun w => hq w.2), List.append_assoc]; exact tl _ (nx q rest h ha)
    · have e : rootL ((s, n) :: rest) = [] := by simp [rootL, h47]
      rw [e, rootF_no (by simp) (F_head hr h47 _)]; exact e0_mk

theorem split_L {s n : Nat} {l : List Nat} (h1 : 1 ≤ n) (hx : l.headD 0 ≠ s) :
    splitrootF (mk (List.replicate n s ++ l)) = (mk (rootL [(s, n)]), mk ((List.replicate n s ++ l).drop (rootL [(s, n)]).length)) := by
  obtain ⟨m, rfl⟩ : ∃ m, n = m + 1 := ⟨n - 1, by omega⟩
  have a1 : Txt.slice (mk (List.replicate (m + 1) s ++ l)) none (some 1) = mk [s] := slice_to (List.replicate (m + 1) s ++ l) 1
  have a2 : Txt.slice (mk (List.replicate (m + 1) s ++ l)) (some 1) none = mk ((List.replicate (m + 1) s ++ l).drop 1) := slice_from _ 1
  have a3 : Txt.slice (mk (List.replicate (m + 1) s ++ l)) none (some 2) = mk ((List.replicate (m + 1) s ++ l).take 2) := slice_to _ 2
  have a4 : Txt.slice (mk (List.replicate (m + 1) s ++ l)) (some 2) none = mk ((List.replicate (m + 1) s ++ l).drop 2) := slice_from _ 2
  have a5 : Txt.slice (mk (List.replicate (m + 1) s ++ l)) (some 1) (some 2) = mk (((List.replicate (m + 1) s ++ l).drop 1).take 1) := slice_mid _ 1 2 (by decide)
  have a6 : Txt.slice (mk (List.replicate (m + 1) s ++ l)) (some 2) (some 3) = mk (((List.replicate (m + 1) s ++ l).drop 2).take 1) := slice_mid _ 2 3 (by decide)
  have ht : l.take 1 ≠ [s] := by
    cases l with
    | nil => simp
    | cons a l => intro w; simp at w; exact hx w
  unfold splitrootF
  rw [a1, a2, a3, a4, a5, a6, sl_mk]
  simp only [bne_mk, beq_mk]
  by_cases h47 : s = 47
  · subst h47
    have n0 : ([47] != ([47] : List Nat)) = false := by decide
    rw [n0]
    simp only [Bool.false_eq_true, if_false]
    rcases Nat.lt_or_ge m 1 with hm | hm
    · have : m = 0 := by omega
      subst this
      have e1 : (((List.replicate (0 + 1) 47 ++ l).drop 1).take 1 != [47]) = true := by simpa using ht
      have e3 : rootL [(47, 0 + 1)] = [47] := by simp [rootL]
      rw [e1, e3]; simp
    · rcases Nat.lt_or_ge m 2 with hm2 | hm2
      · have : m = 1 := by omega
        subst this
        have e1 : (((List.replicate (1 + 1) 47 ++ l).drop 1).take 1 != [47]) = false := by simp [List.replicate_succ]
        have e2 : (((List.replicate (1 + 1) 47 ++ l).drop 2).take 1 == [47]) = false := by simpa [List.replicate_succ] using ht
        have e3 : rootL [(47, 1 + 1)] = [47, 47] := by simp [rootL]
        rw [e1, e2, e3]; simp [List.replicate_succ]
      · obtain ⟨j, rfl⟩ : ∃ j, m = j + 2 := ⟨m - 2, by omega⟩
        have e2 : (((List.replicate (j + 2 + 1) 47 ++ l).drop 2).take 1 == [47]) = true := by simp [List.replicate_succ]
        have e3 : rootL [(47, j + 2 + 1)] = [47] := by simp [rootL]
        rw [e2, e3]
        simp
  · have e : rootL [(s, m + 1)] = [] := by simp [rootL, h47]
    have e' : ([s] != [47]) = true := by simpa using h47
    rw [e, e', e0_mk]; rfl
end Mine
end

section
namespace Mine
open PySem PyProof.Rows

theorem at_iff (l : List Nat) (i : Nat) : StrLaws.At (mk l) (mk [47]) (mk l).length i ↔ l[i]? = some 47 := by
  have := StrLaws.subAt_one (mk l) 47 i
  rw [mk_list] at this
  exact this
theorem rfind_no {l : List Nat} (h : 47 ∉ l) : Txt.rfind (mk l) sl = -1 := by
  rw [sl_mk]
  unfold Txt.rfind
  rcases StrLaws.last_spec (mk l) (mk [47]) with ⟨e, _⟩ | ⟨i, e, ha, _⟩
  · rw [e]
  · rw [at_iff] at ha
    exact absurd (List.mem_of_getElem? ha) h
theorem rfind_at {p q : List Nat} (h : 47 ∉ q) : Txt.rfind (mk (p ++ 47 :: q)) sl = (p.length : Int) := by
  rw [sl_mk]
  unfold Txt.rfind
  have hat : StrLaws.At (mk (p ++ 47 :: q)) (mk [47]) (mk (p ++ 47 :: q)).length p.length := by
    rw [at_iff]; simp
  rcases StrLaws.last_spec (mk (p ++ 47 :: q)) (mk [47]) with ⟨e, hn⟩ | ⟨i, e, ha, hn⟩
  · exact absurd hat (hn _)
  · rw [e]
    have hi : i = p.length := by
      rcases Nat.lt_trichotomy i p.length with w | w | w
      · exact absurd hat (hn _ w)
      · exact w
      · rw [at_iff, List.getElem?_append_right (by omega)] at ha
        obtain ⟨j, hj⟩ : ∃ j, i - p.length = j + 1 := ⟨i - p.length - 1, by omega⟩
        rw [hj, List.getElem?_cons_succ] at ha
        exact absurd (List.mem_of_getElem? ha) h
    rw [hi]
theorem rep_sl (n : Nat) : Txt.mul sl (n : Int) = mk (List.replicate n 47) := by
  have : sl = ch 47 := by decide
  rw [this, mul_ch]
theorem rstrip_sl {p : List Nat} {n : Nat} (hp : p.getLast? ≠ some 47) : Txt.rstripChars (mk (p ++ List.replicate n 47)) sl = mk p := by
  unfold Txt.rstripChars
  rw [stripBy_eq, sl_mk]
  have hlo : stripLo (mk [47]).cps.contains false (mk (p ++ List.replicate n 47)) = 0 := rfl
  rw [hlo]
  have tw : ∀ (m : Nat) (q : List Nat), q.head? ≠ some 47 → (List.replicate m 47 ++ q).takeWhile (mk [47]).cps.contains = List.replicate m 47 := by
    intro m q hq
    induction m with
    | zero =>
      cases q with
      | nil => rfl
      | cons a q =>
        rw [List.replicate_zero, List.nil_append, List.takeWhile_cons]
        have ha : a ≠ 47 := fun w => hq (by rw [w]; rfl)
        have : (mk [47]).cps.contains a = false := by simp [ha]
        rw [this]; rfl
    | succ m ih =>
      have : (mk [47]).cps.contains 47 = true := by simp
      rw [List.replicate_succ, List.cons_append, List.takeWhile_cons, if_pos this, ih]
  have hhi : stripHi (mk [47]).cps.contains true (mk (p ++ List.replicate n 47)) 0 = p.length := by
    unfold stripHi
    rw [if_pos rfl, mk_list, List.drop_zero, List.reverse_append, List.reverse_replicate, tw n p.reverse (by rw [List.head?_reverse]; exact hp), mk_len]
    simp
  rw [hhi]
  refine (str_mk _).trans ?_
  rw [StrLaws.strSub_toList, mk_list]
  simp
end Mine
end

section
namespace Mine
open PySem PyProof.Rows

theorem cs_app (a b : List Run) : cs (a ++ b) = cs a ++ cs b := by simp [cs]
theorem not47 {l : List Run} (h : ∀ r ∈ l, r.1 ≠ 47) : 47 ∉ cs l := fun w => by
  unfold cs at w
  obtain ⟨r, hr, hk⟩ := List.mem_flatMap.mp w
  exact h r hr (List.eq_of_mem_replicate hk).symm
/-- a list of runs, cut at its last slashes -/
theorem last_cut : ∀ (runs : List Run), (∀ r ∈ runs, r.1 ≠ 47) ∨ ∃ A n B, runs = A ++ (47, n) :: B ∧ ∀ r ∈ B, r.1 ≠ 47
  | [] => .inl fun _ h => nomatch h
  | r :: l => by
    rcases last_cut l with h | ⟨A, n, B, rfl, hB⟩
    · by_cases hr : r.1 = 47
      · exact .inr ⟨[], r.2, l, by rw [← hr]; rfl, h⟩
      · refine .inl fun q hq => ?_
        rcases List.mem_cons.mp hq with rfl | hq
        · exact hr
        · exact h q hq
    · exact .inr ⟨r :: A, n, B, rfl, hB⟩
theorem cuts_no {runs : List Run} (h : ∀ r ∈ runs, r.1 ≠ 47) : cutsOf runs = [] := by
  unfold cutsOf
  rw [List.filter_eq_nil_iff]
  intro i hi w
  have hi' := List.mem_range.mp hi
  rw [List.getElem?_eq_getElem hi'] at w
  exact h _ (List.getElem_mem hi') (by simpa using w)
theorem cuts_last {A B : List Run} {n : Nat} (h : ∀ r ∈ B, r.1 ≠ 47) : (cutsOf (A ++ (47, n) :: B)).getLast? = some A.length := by
  unfold cutsOf
  have hlen : (A ++ (47, n) :: B).length = (A.length + 1) + B.length := by simp; omega
  rw [hlen, List.range_add, List.filter_append]
  have h2 : (List.map (fun x => A.length + 1 + x) (List.range B.length)).filter (fun i => ((A ++ (47, n) :: B)[i]?.getD (0, 0)).1 == 47) = [] := by
    rw [List.filter_eq_nil_iff]
    intro i hi w
    obtain ⟨j, hj, rfl⟩ := List.mem_map.mp hi
    have hj' := List.mem_range.mp hj
    rw [List.getElem?_append_right (by omega), show A.length + 1 + j - A.length = j + 1 by omega, List.getElem?_cons_succ, List.getElem?_eq_getElem hj'] at w
    exact h _ (List.getElem_mem hj') (by simpa using w)
  rw [h2, List.append_nil, List.range_succ, List.filter_append]
  have h3 : [A.length].filter (fun i => ((A ++ (47, n) :: B)[i]?.getD (0, 0)).1 == 47) = [A.length] := by simp
  rw [h3]; simp
theorem adj_last : ∀ {A : List Run} {r : Run} {B : List Run}, Adj (A ++ r :: B) → A ≠ [] → ∃ A' q, A = A' ++ [q] ∧ q.1 ≠ r.1
  | [], _, _, _, h => absurd rfl h
  | [q], r, B, ha, _ => ⟨[], q, rfl, ha.1⟩
  | q :: q' :: A, r, B, ha, _ => by
    obtain ⟨A', x, e, hx⟩ := adj_last (A := q' :: A) ha.2 (by simp)
    exact ⟨q :: A', x, by rw [e]; rfl, hx⟩
theorem join_words (l : List Run) : Txt.join e0 (wordsOf l) = mk (cs l) := by rw [words_mk, join_e0]; rfl
theorem words_app (a b : List Run) : wordsOf (a ++ b) = wordsOf a ++ wordsOf b := by simp [wordsOf]
theorem words_len (a : List Run) : (wordsOf a).length = a.length := by simp [wordsOf]

theorem ends_L {runs : List Run} (h : ∀ r ∈ runs, RunOk r) (ha : Adj runs) : headF (textOf runs) = (endsF runs).1 ∧ tailF (textOf runs) = (endsF runs).2 := by
  rw [text_mk]
  rcases last_cut runs with hn | ⟨A, n, B, rfl, hB⟩
  · have e : endsF runs = (e0, Txt.join e0 (wordsOf runs)) := by unfold endsF; rw [cuts_no hn]; rfl
    have hf := rfind_no (not47 hn)
    have hc : cutF (mk (cs runs)) = mk [] := by
      unfold cutF; rw [hf]; exact slice_to (cs runs) 0
    rw [e, join_words]
    refine ⟨?_, ?_⟩
    · unfold headF; rw [hc]; exact e0_mk.symm
    · unfold tailF; rw [hf]; exact slice_from (cs runs) 0
  · have hr : RunOk (47, n) := h _ (by simp)
    obtain ⟨m, rfl⟩ : ∃ m, n = m + 1 := ⟨n - 1, by have := hr.2.1; simp at this; omega⟩
    have hcs : cs (A ++ (47, m + 1) :: B) = (cs A ++ List.replicate m 47) ++ 47 :: cs B := by
      rw [cs_app, cs_cons, List.replicate_succ']; simp
    have hcs2 : (cs A ++ List.replicate m 47) ++ 47 :: cs B = (cs A ++ List.replicate (m + 1) 47) ++ cs B := by rw [List.replicate_succ']; simp
    have hf : Txt.rfind (mk (cs (A ++ (47, m + 1) :: B))) sl = ((cs A ++ List.replicate m 47).length : Int) := by rw [hcs]; exact rfind_at (not47 hB)
    have hlen : (((cs A ++ List.replicate m 47).length : Nat) : Int) + 1 = ((cs A ++ List.replicate (m + 1) 47).length : Nat) := by simp; omega
    have hcut : cutF (mk (cs (A ++ (47, m + 1) :: B))) = mk (cs A ++ List.replicate (m + 1) 47) := by
      unfold cutF
      rw [hf, hlen, slice_to, hcs, hcs2, List.take_left' rfl]
    have htail : tailF (mk (cs (A ++ (47, m + 1) :: B))) = mk (cs B) := by
      unfold tailF
      rw [hf, hlen, slice_from, hcs, hcs2, List.drop_left' rfl]
    have hcl := cuts_last (A := A) (n := m + 1) hB
    have hce : (cutsOf (A ++ (47, m + 1) :: B)).isEmpty = false := by
      cases hq : cutsOf (A ++ (47, m + 1) :: B) with
      | nil => rw [hq] at hcl; cases hcl
      | cons => rfl
    have hd : (wordsOf (A ++ (47, m + 1) :: B)).drop (A.length + 1) = wordsOf B := by
      rw [words_app, show wordsOf ((47, m + 1) :: B) = [Txt.mul (ch 47) ((m + 1 : Nat) : Int)] ++ wordsOf B from rfl, ← List.append_assoc, List.drop_left' (by simp [words_len])]
    have htk : (wordsOf (A ++ (47, m + 1) :: B)).take A.length = wordsOf A := by
      rw [words_app, List.take_left' (words_len A)]
    unfold endsF
    rw [hce, hcl]
    simp only [Bool.false_eq_true, if_false, Option.getD_some, hd, htk, htail, join_words, and_true]
    unfold headF
    rw [hcut, mk_len, rep_sl]
    have hl0 : (((cs A ++ List.replicate (m + 1) 47).length : Nat) : Int) != 0 := by simp; omega
    rw [hl0, Bool.true_and, bne_mk]
    by_cases hA : A = []
    · subst hA
      have : (cs [] ++ List.replicate (m + 1) 47 != List.replicate (cs [] ++ List.replicate (m + 1) 47).length 47) = false := by simp [cs]
      rw [this]
      have hw : (wordsOf ([] : List Run)).isEmpty = true := rfl
      rw [hw]
      have ht1 : (wordsOf ([] ++ (47, m + 1) :: B)).take 1 = wordsOf [(47, m + 1)] := rfl
      simp only [Bool.false_eq_true, if_false, if_true, ht1, join_words]
      simp [cs]
    · obtain ⟨A', q, rfl, hq⟩ := adj_last ha hA
      have hqo : RunOk q := h q (by simp)
      obtain ⟨j, hj⟩ : ∃ j, q.2 = j + 1 := ⟨q.2 - 1, by have := hqo.2.1; omega⟩
      have hla : (cs (A' ++ [q])).getLast? ≠ some 47 := by
        have : cs (A' ++ [q]) = (cs A' ++ List.replicate j q.1) ++ [q.1] := by rw [cs_app, cs_cons, hj, List.replicate_succ']; simp [cs]
        rw [this]; simp; exact hq
      have hne : (cs (A' ++ [q]) ++ List.replicate (m + 1) 47 != List.replicate (cs (A' ++ [q]) ++ List.replicate (m + 1) 47).length 47) = true := by
        rw [bne_iff_ne]
        intro w
        have hmem : q.1 ∈ cs (A' ++ [q]) ++ List.replicate (m + 1) 47 := by
          rw [cs_app, cs_cons, hj, List.replicate_succ]; simp
        rw [w] at hmem
        exact hq (List.eq_of_mem_replicate hmem)
      rw [hne]
      have hw : (wordsOf (A' ++ [q])).isEmpty = false := by rw [words_app]; simp [wordsOf]
      rw [hw]
      simp only [Bool.false_eq_true, if_false, if_true, join_words]
      exact rstrip_sl hla
end Mine
end

section
namespace Mine
open PySem PyProof.Rows

/-! parts between slashes -/
noncomputable def lastL (acc : List (List Nat)) : List Nat := acc.getLast?.getD []
noncomputable def stepC (acc : List (List Nat)) (c : Nat) : List (List Nat) := if c = 47 then acc ++ [[]] else acc.dropLast ++ [lastL acc ++ [c]]
noncomputable def sp (l : List Nat) : List (List Nat) := l.foldl stepC [[]]
theorem sp_snoc (l : List Nat) (c : Nat) : sp (l ++ [c]) = stepC (sp l) c := by simp [sp]
theorem stepC_ne (acc : List (List Nat)) (c : Nat) : stepC acc c ≠ [] := by unfold stepC; split <;> simp
theorem sp_ne (l : List Nat) : sp l ≠ [] := by
  have : ∀ (l : List Nat) (acc : List (List Nat)), acc ≠ [] → l.foldl stepC acc ≠ [] := by
    intro l
    induction l with
    | nil => intro _ h; exact h
    | cons c l ih => intro acc _; exact ih _ (stepC_ne acc c)
  exact this l _ (by simp)
theorem sp_split (l : List Nat) : ∃ J z, sp l = J ++ [z] := ⟨_, _, (List.dropLast_concat_getLast (sp_ne l)).symm⟩
theorem stepC_47 (J : List (List Nat)) (z : List Nat) : stepC (J ++ [z]) 47 = J ++ [z] ++ [[]] := rfl
theorem stepC_ch {c : Nat} (h : c ≠ 47) (J : List (List Nat)) (z : List Nat) : stepC (J ++ [z]) c = J ++ [z ++ [c]] := by
  unfold stepC lastL; rw [if_neg h]; simp
theorem foldC_word : ∀ (v : List Nat) (J : List (List Nat)) (z : List Nat), 47 ∉ v → v.foldl stepC (J ++ [z]) = J ++ [z ++ v]
  | [], J, z, _ => by simp
  | c :: v, J, z, h => by
    rw [List.foldl_cons, stepC_ch (fun w => h (w ▸ .head _)), foldC_word v J _ fun w => h (.tail _ w)]; simp
theorem sp_app (x v : List Nat) : sp (x ++ v) = v.foldl stepC (sp x) := by simp [sp]
theorem jn_snoc (s : List Nat) : ∀ (J : List (List Nat)) (z w : List Nat), jn s (J ++ [z ++ w]) = jn s (J ++ [z]) ++ w
  | [], z, w => rfl
  | [a], z, w => by simp [jn]
  | a :: b :: J, z, w => by
    have := jn_snoc s (b :: J) z w
    simp only [List.cons_append, jn] at this ⊢
    rw [this]; simp
theorem jn_new (s : List Nat) : ∀ (J : List (List Nat)) (z : List Nat), jn s (J ++ [z] ++ [[]]) = jn s (J ++ [z]) ++ s
  | [], z => by simp [jn]
  | [a], z => by simp [jn]
  | a :: b :: J, z => by
    have := jn_new s (b :: J) z
    simp only [List.cons_append, jn] at this ⊢
    rw [this]; simp
theorem snoc_ind {P : List Nat → Prop} (h0 : P []) (h1 : ∀ l c, P l → P (l ++ [c])) : ∀ l, P l := fun l => by
  rw [← List.reverse_reverse l]
  induction l.reverse with
  | nil => exact h0
  | cons c l ih => rw [List.reverse_cons]; exact h1 _ _ ih
theorem jn_sp : ∀ l : List Nat, jn [47] (sp l) = l := snoc_ind rfl fun l c ih => by
  obtain ⟨J, z, e⟩ := sp_split l
  rw [sp_snoc]
  rw [e] at ih ⊢
  by_cases h : c = 47
  · subst h; rw [stepC_47, jn_new, ih]
  · rw [stepC_ch h, jn_snoc, ih]
theorem sp_free : ∀ l : List Nat, ∀ p ∈ sp l, 47 ∉ p := snoc_ind (by simp [sp]) fun l c ih => by
  obtain ⟨J, z, e⟩ := sp_split l
  rw [sp_snoc]
  rw [e] at ih ⊢
  by_cases h : c = 47
  · subst h; rw [stepC_47]
    intro p hp
    rcases List.mem_append.mp hp with hp | hp
    · exact ih p hp
    · simp at hp; subst hp; simp
  · rw [stepC_ch h]
    intro p hp
    rcases List.mem_append.mp hp with hp | hp
    · exact ih p (by simp [hp])
    · simp at hp; subst hp
      have := ih z (by simp)
      simp [this, Ne.symm h]
/-- one way only -/
theorem jn_inj : ∀ (a b : List (List Nat)), a ≠ [] → b ≠ [] → (∀ p ∈ a, 47 ∉ p) → (∀ p ∈ b, 47 ∉ p) → jn [47] a = jn [47] b → a = b := by
  have cutw : ∀ (x y r t : List Nat), 47 ∉ x → 47 ∉ y → x ++ 47 :: r = y ++ 47 :: t → x = y ∧ r = t := by
    intro x
    induction x with
    | nil =>
      intro y r t _ hy e
      cases y with
      | nil => simp at e; exact ⟨rfl, e⟩
      | cons b y => simp at e; exact absurd (e.1 ▸ .head _) hy
    | cons a x ih =>
      intro y r t hx hy e
      cases y with
      | nil => simp at e; exact absurd (e.1 ▸ .head _) hx
      | cons b y =>
        simp at e
        obtain ⟨h1, h2⟩ := ih y r t (fun w => hx (.tail _ w)) (fun w => hy (.tail _ w)) e.2
        exact ⟨by rw [e.1, h1], h2⟩
  intro a
  induction a with
  | nil => intro b h; exact absurd rfl h
  | cons x a ih =>
    intro b _ hb ha hb' e
    cases b with
    | nil => exact absurd rfl hb
    | cons y b =>
      have hx := ha x (.head _)
      have hy := hb' y (.head _)
      cases a with
      | nil =>
        cases b with
        | nil => simp [jn] at e; rw [e]
        | cons y' b =>
          simp only [jn] at e
          exact absurd (by rw [e]; simp) hx
      | cons x' a =>
        cases b with
        | nil =>
          simp only [jn] at e
          exact absurd (by rw [← e]; simp) hy
        | cons y' b =>
          simp only [jn, List.append_assoc, List.singleton_append] at e
          obtain ⟨h1, h2⟩ := cutw x y _ _ hx hy e
          rw [h1, ih (y' :: b) (by simp) (by simp) (fun p hp => ha p (.tail _ hp)) (fun p hp => hb' p (.tail _ hp)) h2]
theorem split_sp (l : List Nat) : Txt.split (mk l) sl = (sp l).map mk := by
  rw [sl_mk]
  have h1 := StrLaws.join_split (mk l) (mk [47])
  have h2 := StrLaws.split_free (mk l) 47
  have e : Txt.split (mk l) (mk [47]) = ((Txt.split (mk l) (mk [47])).map fun s => s.cps.toList).map mk := by
    rw [List.map_map]
    conv => lhs; rw [← List.map_id (Txt.split (mk l) (mk [47]))]
    exact List.map_congr_left fun s _ => str_mk s
  have hne : Txt.split (mk l) (mk [47]) ≠ [] := by
    unfold Txt.split
    split
    · simp
    · split
      · simp
      · intro w
        have := congrArg List.length w
        rw [length_partsBetween] at this
        simp at this
  generalize hps : (Txt.split (mk l) (mk [47])).map (fun s => s.cps.toList) = ps at *
  rw [e] at h1
  have h3 : Str.join (mk [47]) (ps.map mk) = mk (jn [47] ps) := by
    rw [← StrLaws.glued_eq_join]; exact join_mk [47] ps
  rw [h3] at h1
  have h4 := mk_inj h1
  have : ps = sp l := jn_inj ps (sp l) (by rw [← hps]; simpa using hne) (sp_ne l) (fun p hp => by
    rw [← hps] at hp
    obtain ⟨s, hs, rfl⟩ := List.mem_map.mp hp
    exact h2 s hs) (sp_free l) (by rw [h4, jn_sp])
  rw [e, this]
end Mine
end

section
namespace Mine
open PySem PyProof.Rows

/-! the pieces and the parts -/
noncomputable def wl (t : Tk) : List Nat := t.2.cps.toList
noncomputable def pw (p : List Tk) : List Nat := p.flatMap wl
/-- a token as the runs tell it -/
noncomputable def TV (t : Tk) : Prop :=
  t = (17, mk [47]) ∨ t = (47, mk [47, 47]) ∨ t = (39, mk [47, 61]) ∨ t = (48, mk [47, 47, 61]) ∨ t = (23, mk [46]) ∨ t = (52, mk [46, 46, 46]) ∨ t = (22, mk [61]) ∨ t = (27, mk [61, 61]) ∨ ∃ n, 1 ≤ n ∧ n ≤ 4 ∧ t = (1, mk (List.replicate n 97))
noncomputable def ne (l : List Nat) : Bool := !l.isEmpty
theorem word_mk (p : List Tk) : wordOf p = mk (pw p) := by
  unfold wordOf
  have : p.map (·.2) = (p.map wl).map mk := by
    rw [List.map_map]; exact List.map_congr_left fun t _ => str_mk t.2
  rw [this, join_e0]; rfl
theorem pw_app (p q : List Tk) : pw (p ++ q) = pw p ++ pw q := by simp [pw]

/-- the step, seen from the words -/
structure Mt (acc : List (List Tk)) (x : List Nat) : Prop where
  ex : ∃ I J z, acc.map pw = I ++ [z] ∧ sp x = J ++ [z] ∧ I.filter ne = J.filter ne
theorem Mt.push {acc : List (List Tk)} {x : List Nat} (m : Mt acc x) {p : List Tk} {v : List Nat} (hv : 47 ∉ v) (hp : pw p = v) (k : Nat) (hk : 1 ≤ k) : Mt (acc ++ [p]) (x ++ (List.replicate k 47 ++ v)) := by
  obtain ⟨I, J, z, h1, h2, h3⟩ := m.ex
  have rep : ∀ (k : Nat) (J : List (List Nat)) (z : List Nat), ∃ J', (List.replicate (k + 1) 47).foldl stepC (J ++ [z]) = J' ++ [[]] ∧ J'.filter ne = (J ++ [z]).filter ne := by
    intro k
    induction k with
    | zero => intro J z; exact ⟨J ++ [z], rfl, rfl⟩
    | succ k ih =>
      intro J z
      rw [List.replicate_succ, List.foldl_cons, stepC_47]
      obtain ⟨J', e1, e2⟩ := ih (J ++ [z]) []
      exact ⟨J', e1, by rw [e2, List.filter_append (J ++ [z])]; show _ ++ [] = _; rw [List.append_nil]⟩
  obtain ⟨j, rfl⟩ : ∃ j, k = j + 1 := ⟨k - 1, by omega⟩
  obtain ⟨J', e1, e2⟩ := rep j J z
  refine ⟨I ++ [z], J', v, by simp [h1, hp], ?_, ?_⟩
  · rw [sp_app, List.foldl_append, h2, e1, foldC_word v J' [] hv]; rfl
  · rw [e2, List.filter_append, List.filter_append, h3]
theorem Mt.word {acc : List (List Tk)} {x : List Nat} (m : Mt acc x) {t : Tk} (hv : 47 ∉ wl t) (hne : acc ≠ []) : Mt (acc.dropLast ++ [acc.getLast?.getD [] ++ [t]]) (x ++ wl t) := by
  obtain ⟨I, J, z, h1, h2, h3⟩ := m.ex
  obtain ⟨A, q, rfl⟩ : ∃ A q, acc = A ++ [q] := ⟨_, _, (List.dropLast_concat_getLast hne).symm⟩
  rw [List.map_append] at h1
  have hq : A.map pw = I ∧ pw q = z := by
    have := List.append_inj' h1 rfl
    exact ⟨this.1, by simpa using this.2⟩
  refine ⟨I, J, z ++ wl t, ?_, ?_, h3⟩
  · have e : pw (q ++ [t]) = z ++ wl t := by rw [pw_app, hq.2]; simp [pw]
    simp [hq.1, e]
  · rw [sp_app, h2, foldC_word _ _ _ hv]
theorem step_Mt {acc : List (List Tk)} {x : List Nat} {t : Tk} (ht : TV t) (m : Mt acc x) (hne : acc ≠ []) : Mt (stepP acc t) (x ++ wl t) := by
  rcases ht with rfl | rfl | rfl | rfl | rfl | rfl | rfl | rfl | ⟨n, h1, h2, rfl⟩
  · exact m.push (p := []) (v := []) (by simp) rfl 1 (by decide)
  · exact m.push (p := []) (v := []) (by simp) rfl 2 (by decide)
  · exact m.push (p := [(22, eq1)]) (v := [61]) (by decide) rfl 1 (by decide)
  · exact m.push (p := [(22, eq1)]) (v := [61]) (by decide) rfl 2 (by decide)
  · exact m.word (by decide) hne
  · exact m.word (by decide) hne
  · exact m.word (by decide) hne
  · exact m.word (by decide) hne
  · refine m.word (t := (1, mk (List.replicate n 97))) (fun w => ?_) hne
    have : 47 ∈ List.replicate n 97 := by simpa [wl] using w
    exact absurd (List.eq_of_mem_replicate this) (by decide)
theorem fold_Mt : ∀ (ts : List Tk) (acc : List (List Tk)) (x : List Nat), (∀ t ∈ ts, TV t) → acc ≠ [] → Mt acc x → Mt (ts.foldl stepP acc) (x ++ ts.flatMap wl)
  | [], acc, x, _, _, m => by simpa using m
  | t :: ts, acc, x, h, hne, m => by
    have := fold_Mt ts (stepP acc t) (x ++ wl t) (fun q hq => h q (.tail _ hq)) stepP_ne (step_Mt (h t (.head _)) m hne)
    rw [List.flatMap_cons, ← List.append_assoc]
    exact this
theorem parts_eq {ts : List Tk} (h : ∀ t ∈ ts, TV t) : ((piecesOf ts).map pw).filter ne = (sp (ts.flatMap wl)).filter ne := by
  have m := fold_Mt ts [[]] [] h (by simp) ⟨[], [], [], rfl, rfl, rfl⟩
  obtain ⟨I, J, z, h1, h2, h3⟩ := m.ex
  rw [List.nil_append] at h2
  unfold piecesOf
  rw [h1, h2, List.filter_append, List.filter_append, h3]
end Mine
end

section
namespace Mine

/-! the stack from the front and the ups from the back -/
noncomputable abbrev L2 : List Nat := [46, 46]
noncomputable def skp (w : List Nat) : Bool := w.isEmpty || w == [46]
noncomputable def fw (rt : Bool) (acc : List (List Nat)) (w : List Nat) : List (List Nat) :=
  if skp w then acc
  else if (w != L2 || ((!rt && acc.isEmpty) || (!acc.isEmpty && acc.getLast?.getD [] == L2))) then acc ++ [w]
  else acc.dropLast
noncomputable def bw (acc : Nat × List (List Nat)) (w : List Nat) : Nat × List (List Nat) :=
  if w == L2 then (acc.1 + 1, acc.2)
  else if skp w then acc
  else if 0 < acc.1 then (acc.1 - 1, acc.2) else (acc.1, w :: acc.2)
noncomputable def fwd (rt : Bool) (ws : List (List Nat)) : List (List Nat) := ws.foldl (fw rt) []
noncomputable def bwd (a : Nat × List (List Nat)) (ws : List (List Nat)) : Nat × List (List Nat) := ws.reverse.foldl bw a
theorem bwd_snoc (a : Nat × List (List Nat)) (ws : List (List Nat)) (w : List Nat) : bwd a (ws ++ [w]) = bwd (bw a w) ws := by simp [bwd]
theorem fwd_snoc (rt : Bool) (ws : List (List Nat)) (w : List Nat) : fwd rt (ws ++ [w]) = fw rt (fwd rt ws) w := by simp [fwd]
theorem snoc_ind' {α : Type} {P : List α → Prop} (h0 : P []) (h1 : ∀ l c, P l → P (l ++ [c])) : ∀ l, P l := fun l => by
  rw [← List.reverse_reverse l]
  induction l.reverse with
  | nil => exact h0
  | cons c l ih => rw [List.reverse_cons]; exact h1 _ _ ih
theorem skp_L2 : skp L2 = false := by decide
theorem bw_up (a : Nat × List (List Nat)) : bw a L2 = (a.1 + 1, a.2) := by simp [bw]
theorem bw_skip {w : List Nat} (h : skp w = true) (a : Nat × List (List Nat)) : bw a w = a := by
  have : (w == L2) = false := by
    cases hq : (w == L2) with
    | false => rfl
    | true => have : w = L2 := by simpa using hq
              subst this; rw [skp_L2] at h; cases h
  unfold bw; rw [this, h]; rfl
theorem bw_name0 {w : List Nat} (h : skp w = false) (h2 : w ≠ L2) (k : List (List Nat)) : bw (0, k) w = (0, w :: k) := by
  have : (w == L2) = false := by simpa using h2
  unfold bw; rw [this, h]; rfl
theorem bw_nameS {w : List Nat} (h : skp w = false) (h2 : w ≠ L2) (u : Nat) (k : List (List Nat)) : bw (u + 1, k) w = (u, k) := by
  have : (w == L2) = false := by simpa using h2
  unfold bw; rw [this, h]; simp
theorem bwd_gen : ∀ (ws : List (List Nat)) (u : Nat) (k : List (List Nat)), bwd (u, k) ws = ((bwd (0, []) ws).1 + (u - (bwd (0, []) ws).2.length), (bwd (0, []) ws).2.take ((bwd (0, []) ws).2.length - u) ++ k) := by
  refine snoc_ind' ?_ ?_
  · intro u k; simp [bwd]
  · intro ws w ih u k
    rw [bwd_snoc, bwd_snoc]
    by_cases h2 : w = L2
    · subst h2
      rw [bw_up, bw_up]
      simp only
      rw [ih (u + 1) k, ih (0 + 1) []]
      generalize bwd (0, []) ws = q
      obtain ⟨U, K⟩ := q
      have e1 : min (K.length - (0 + 1)) K.length = K.length - 1 := Nat.min_eq_left (Nat.sub_le _ _)
      have e2 : min (K.length - 1 - u) (K.length - (0 + 1)) = K.length - (u + 1) := by rw [Nat.min_eq_left (Nat.sub_le _ _), Nat.sub_sub, Nat.add_comm 1 u]
      simp only [List.append_nil, List.length_take, List.take_take, e1, e2]
      refine Prod.ext ?_ rfl
      show U + (u + 1 - K.length) = U + (0 + 1 - K.length) + (u - (K.length - 1))
      cases K with
      | nil => simp; exact Nat.add_right_comm U u 1
      | cons x K => simp
    · by_cases hs : skp w = true
      · rw [bw_skip hs, bw_skip hs]; exact ih u k
      · have hs' : skp w = false := by simpa using hs
        rw [bw_name0 hs' h2]
        cases u with
        | zero =>
          rw [bw_name0 hs' h2, ih 0 [w], ih 0 (w :: k)]
          generalize bwd (0, []) ws = q
          obtain ⟨U, K⟩ := q
          have e : (K ++ [w]).take (K.length + 1) = K ++ [w] := List.take_of_length_le (by simp)
          simp [e]
        | succ u =>
          rw [bw_nameS hs' h2, ih 0 [w], ih u k]
          generalize bwd (0, []) ws = q
          obtain ⟨U, K⟩ := q
          have e : (K ++ [w]).take (K.length - u) = K.take (K.length - u) := List.take_append_of_le_length (by omega)
          simp [e]
theorem names : ∀ (ws : List (List Nat)), ∀ w ∈ (bwd (0, []) ws).2, w ≠ L2 := by
  refine snoc_ind' (by simp [bwd]) ?_
  intro ws w ih
  rw [bwd_snoc]
  by_cases h2 : w = L2
  · subst h2
    rw [bw_up, bwd_gen]
    intro x hx
    simp only [List.append_nil] at hx
    exact ih x (List.mem_of_mem_take hx)
  · by_cases hs : skp w = true
    · rw [bw_skip hs]; exact ih
    · have hs' : skp w = false := by simpa using hs
      rw [bw_name0 hs' h2, bwd_gen]
      intro x hx
      rcases List.mem_append.mp hx with hx | hx
      · exact ih x (List.mem_of_mem_take hx)
      · have : x = w := by simpa using hx
        rw [this]; exact h2
theorem fwd_bwd (rt : Bool) : ∀ (ws : List (List Nat)), fwd rt ws = if rt then (bwd (0, []) ws).2 else List.replicate (bwd (0, []) ws).1 L2 ++ (bwd (0, []) ws).2 := by
  refine snoc_ind' (by cases rt <;> rfl) ?_
  intro ws w ih
  rw [fwd_snoc, bwd_snoc, ih]
  have hnm := names ws
  by_cases h2 : w = L2
  · subst h2
    rw [bw_up, bwd_gen ws (0 + 1)]
    revert hnm
    generalize bwd (0, []) ws = q
    obtain ⟨U, K⟩ := q
    intro hnm
    simp only [List.append_nil] at hnm ⊢
    unfold fw
    rw [skp_L2]
    rcases List.eq_nil_or_concat K with rfl | ⟨K', z, rfl⟩
    · cases rt
      · simp only [Bool.false_eq_true, if_false, List.append_nil, List.length_nil, List.take_nil]
        have : (L2 != L2 || ((!false && (List.replicate U L2).isEmpty) || (!(List.replicate U L2).isEmpty && (List.replicate U L2).getLast?.getD [] == L2))) = true := by
          cases U with
          | zero => rfl
          | succ U => simp [List.replicate_succ']
        rw [this]
        simp [List.replicate_succ']
      · simp
    · have hz : z ≠ L2 := hnm z (by simp)
      have hz' : (z == L2) = false := by simpa using hz
      cases rt
      · simp [hz']
      · simp [hz']
  · by_cases hs : skp w = true
    · rw [bw_skip hs]; unfold fw; rw [hs]; rfl
    · have hs' : skp w = false := by simpa using hs
      have hw : (w != L2) = true := by simpa using h2
      rw [bw_name0 hs' h2, bwd_gen ws 0 [w]]
      unfold fw
      rw [hs', hw]
      cases rt <;> simp

/-! the empty parts are nothing -/
theorem fwd_filter (rt : Bool) (ws : List (List Nat)) : fwd rt (ws.filter fun w => !w.isEmpty) = fwd rt ws := by
  unfold fwd
  have : ∀ (ws acc : List (List Nat)), (ws.filter fun w => !w.isEmpty).foldl (fw rt) acc = ws.foldl (fw rt) acc := by
    intro ws
    induction ws with
    | nil => intro _; rfl
    | cons w ws ih =>
      intro acc
      cases w with
      | nil => exact ih acc
      | cons a w => exact ih _
  exact this ws []
theorem bwd_filter (ws : List (List Nat)) : bwd (0, []) (ws.filter fun w => !w.isEmpty) = bwd (0, []) ws := by
  unfold bwd
  rw [← List.filter_reverse]
  have : ∀ (ws : List (List Nat)) (acc : Nat × List (List Nat)), (ws.filter fun w => !w.isEmpty).foldl bw acc = ws.foldl bw acc := by
    intro ws
    induction ws with
    | nil => intro _; rfl
    | cons w ws ih =>
      intro acc
      cases w with
      | nil => exact ih acc
      | cons a w => exact ih _
  exact this _ _

/-! sizes -/
noncomputable def tot (ls : List (List Nat)) : Nat := (ls.map fun w => w.length + 1).sum
theorem tot_app (a b : List (List Nat)) : tot (a ++ b) = tot a + tot b := by simp [tot]
theorem fw_tot (rt : Bool) (acc : List (List Nat)) (w : List Nat) : tot (fw rt acc w) ≤ tot acc + (w.length + 1) := by
  unfold fw
  split
  · omega
  · split
    · rw [tot_app]; simp [tot]
    · rcases List.eq_nil_or_concat acc with rfl | ⟨K', z, rfl⟩
      · simp
      · have e : (K' ++ [z]).dropLast = K' := by simp
        rw [List.concat_eq_append, e, tot_app]; omega
theorem fwd_tot (rt : Bool) (ws : List (List Nat)) : tot (fwd rt ws) ≤ tot ws := by
  have : ∀ (ws acc : List (List Nat)), tot (ws.foldl (fw rt) acc) ≤ tot acc + tot ws := by
    intro ws
    induction ws with
    | nil => intro _; simp [tot]
    | cons w ws ih =>
      intro acc
      have h1 := ih (fw rt acc w)
      have h2 := fw_tot rt acc w
      have h3 : tot (w :: ws) = w.length + 1 + tot ws := by simp [tot]
      rw [List.foldl_cons]; omega
  have := this ws []
  simpa [fwd, tot] using this
theorem tot_len (ls : List (List Nat)) : ls.length ≤ tot ls := by
  induction ls with
  | nil => simp
  | cons w ws ih => simp only [tot, List.map_cons, List.sum_cons, List.length_cons] at *; omega
theorem tot_mem {ls : List (List Nat)} {w : List Nat} (h : w ∈ ls) : w.length ≤ tot ls := by
  induction ls with
  | nil => cases h
  | cons x ws ih =>
    simp only [tot, List.map_cons, List.sum_cons] at *
    rcases List.mem_cons.mp h with rfl | h
    · omega
    · have := ih h; omega
end Mine
end

section
namespace Mine
open PySem PyProof.Rows

/-! the tokens of the runs: what they are and what they spell -/
noncomputable abbrev T47 : List (List Tk) := [[], [(17, mk [47])], [(47, mk [47, 47])], [(47, mk [47, 47]), (17, mk [47])], [(47, mk [47, 47]), (47, mk [47, 47])]]
noncomputable abbrev T46 : List (List Tk) := [[], [(23, mk [46])], [(23, mk [46]), (23, mk [46])], [(52, mk [46, 46, 46])], [(52, mk [46, 46, 46]), (23, mk [46])]]
noncomputable abbrev T61 : List (List Tk) := [[], [(22, mk [61])], [(27, mk [61, 61])], [(27, mk [61, 61]), (22, mk [61])], [(27, mk [61, 61]), (27, mk [61, 61])]]
noncomputable abbrev M47 : List (List Tk) := [[], [(39, mk [47, 61])], [(48, mk [47, 47, 61])], [(47, mk [47, 47]), (39, mk [47, 61])], [(47, mk [47, 47]), (48, mk [47, 47, 61])]]
theorem t47 : ([0, 1, 2, 3, 4] : List Nat).map (toksOf 47) = T47 := by decide +kernel
theorem t46 : ([0, 1, 2, 3, 4] : List Nat).map (toksOf 46) = T46 := by decide +kernel
theorem t61 : ([0, 1, 2, 3, 4] : List Nat).map (toksOf 61) = T61 := by decide +kernel
theorem m47 : ([0, 1, 2, 3, 4] : List Nat).map (fun n => mergeT (toksOf 47 n)) = M47 := by decide +kernel
theorem at5 {α : Type} {f : Nat → α} {l : List α} (h : ([0, 1, 2, 3, 4] : List Nat).map f = l) {n : Nat} (hn : n ≤ 4) : l[n]? = some (f n) := by
  rw [← h, List.getElem?_map]
  match n, hn with
  | 0, _ => rfl
  | 1, _ => rfl
  | 2, _ => rfl
  | 3, _ => rfl
  | 4, _ => rfl
/-- tokens that are good and spell x -/
structure Sp (ts : List Tk) (x : List Nat) : Prop where
  tv : ∀ t ∈ ts, TV t
  wd : ts.flatMap wl = x
theorem Sp.app {a b : List Tk} {x y : List Nat} (h : Sp a x) (k : Sp b y) : Sp (a ++ b) (x ++ y) := by
  refine ⟨fun t ht => ?_, by rw [List.flatMap_append, h.wd, k.wd]⟩
  rcases List.mem_append.mp ht with ht | ht
  · exact h.tv t ht
  · exact k.tv t ht
theorem Sp.nil : Sp [] [] := ⟨fun _ h => (nomatch h), rfl⟩
theorem Sp.cons {t : Tk} {ts : List Tk} {v x : List Nat} (h : TV t) (hv : wl t = v) (k : Sp ts x) : Sp (t :: ts) (v ++ x) := by
  refine ⟨fun q hq => ?_, by rw [List.flatMap_cons, hv, k.wd]⟩
  rcases List.mem_cons.mp hq with rfl | hq
  · exact h
  · exact k.tv q hq
theorem v17 : TV (17, mk [47]) := .inl rfl
theorem v47 : TV (47, mk [47, 47]) := .inr (.inl rfl)
theorem v39 : TV (39, mk [47, 61]) := .inr (.inr (.inl rfl))
theorem v48 : TV (48, mk [47, 47, 61]) := .inr (.inr (.inr (.inl rfl)))
theorem v23 : TV (23, mk [46]) := .inr (.inr (.inr (.inr (.inl rfl))))
theorem v52 : TV (52, mk [46, 46, 46]) := .inr (.inr (.inr (.inr (.inr (.inl rfl)))))
theorem v22 : TV (22, mk [61]) := .inr (.inr (.inr (.inr (.inr (.inr (.inl rfl))))))
theorem v27 : TV (27, mk [61, 61]) := .inr (.inr (.inr (.inr (.inr (.inr (.inr (.inl rfl)))))))
theorem v1 {n : Nat} (h : 1 ≤ n) (h' : n ≤ 4) : TV (1, mk (List.replicate n 97)) := .inr (.inr (.inr (.inr (.inr (.inr (.inr (.inr ⟨n, h, h', rfl⟩)))))))

theorem sp_47 {n : Nat} (h : n ≤ 4) : Sp (toksOf 47 n) (List.replicate n 47) := by
  have e := at5 t47 h
  match n, h, e with
  | 0, _, e => exact (Option.some.inj e) ▸ Sp.nil
  | 1, _, e => exact (Option.some.inj e) ▸ Sp.cons v17 rfl Sp.nil
  | 2, _, e => exact (Option.some.inj e) ▸ Sp.cons v47 rfl Sp.nil
  | 3, _, e => exact (Option.some.inj e) ▸ Sp.cons v47 rfl (Sp.cons v17 rfl Sp.nil)
  | 4, _, e => exact (Option.some.inj e) ▸ Sp.cons v47 rfl (Sp.cons v47 rfl Sp.nil)
theorem sp_46 {n : Nat} (h : n ≤ 4) : Sp (toksOf 46 n) (List.replicate n 46) := by
  have e := at5 t46 h
  match n, h, e with
  | 0, _, e => exact (Option.some.inj e) ▸ Sp.nil
  | 1, _, e => exact (Option.some.inj e) ▸ Sp.cons v23 rfl Sp.nil
  | 2, _, e => exact (Option.some.inj e) ▸ Sp.cons v23 rfl (Sp.cons v23 rfl Sp.nil)
  | 3, _, e => exact (Option.some.inj e) ▸ Sp.cons v52 rfl Sp.nil
  | 4, _, e => exact (Option.some.inj e) ▸ Sp.cons v52 rfl (Sp.cons v23 rfl Sp.nil)
theorem sp_61 {n : Nat} (h : n ≤ 4) : Sp (toksOf 61 n) (List.replicate n 61) := by
  have e := at5 t61 h
  match n, h, e with
  | 0, _, e => exact (Option.some.inj e) ▸ Sp.nil
  | 1, _, e => exact (Option.some.inj e) ▸ Sp.cons v22 rfl Sp.nil
  | 2, _, e => exact (Option.some.inj e) ▸ Sp.cons v27 rfl Sp.nil
  | 3, _, e => exact (Option.some.inj e) ▸ Sp.cons v27 rfl (Sp.cons v22 rfl Sp.nil)
  | 4, _, e => exact (Option.some.inj e) ▸ Sp.cons v27 rfl (Sp.cons v27 rfl Sp.nil)
theorem sp_m {n : Nat} (h1 : 1 ≤ n) (h : n ≤ 4) : Sp (mergeT (toksOf 47 n)) (List.replicate n 47 ++ [61]) := by
  have e := at5 (f := fun n => mergeT (toksOf 47 n)) m47 h
  match n, h1, h, e with
  | 1, _, _, e =>
    have k := Sp.cons (x := []) v39 (v := [47, 61]) rfl Sp.nil
    exact (Option.some.inj e) ▸ k
  | 2, _, _, e =>
    have k := Sp.cons (x := []) v48 (v := [47, 47, 61]) rfl Sp.nil
    exact (Option.some.inj e) ▸ k
  | 3, _, _, e =>
    have k := Sp.cons v47 (v := [47, 47]) rfl (Sp.cons (x := []) v39 (v := [47, 61]) rfl Sp.nil)
    exact (Option.some.inj e) ▸ k
  | 4, _, _, e =>
    have k := Sp.cons v47 (v := [47, 47]) rfl (Sp.cons (x := []) v48 (v := [47, 47, 61]) rfl Sp.nil)
    exact (Option.some.inj e) ▸ k
theorem sp_97 {n : Nat} (h1 : 1 ≤ n) (h : n ≤ 4) : Sp (toksOf 97 n) (List.replicate n 97) := by
  have ht : toksOf 97 n = [(1, mk (List.replicate n 97))] := by
    unfold toksOf; rw [if_pos rfl, mul_ch]
  have := Sp.cons (v1 h1 h) (v := List.replicate n 97) (mk_list _) Sp.nil
  rw [List.append_nil] at this
  rw [ht]; exact this
theorem sp_run {r : Run} (h : RunOk r) : Sp (toksOf r.1 r.2) (List.replicate r.2 r.1) := by
  obtain ⟨s, n⟩ := r
  obtain ⟨h1, h2, h3⟩ := h
  simp only at *
  rcases h1 with rfl | rfl | rfl | rfl
  · exact sp_47 h3
  · exact sp_46 h3
  · exact sp_61 h3
  · exact sp_97 h2 h3
theorem sp_F : ∀ (runs : List Run), (∀ r ∈ runs, RunOk r) → Sp (F runs) (cs runs)
  | [], _ => Sp.nil
  | [r], h => by
    have := sp_run (h r (.head _))
    rw [cs_cons, show cs [] = [] from rfl, List.append_nil]
    exact this
  | r :: q :: rest, h => by
    have hr := h r (.head _)
    have hq := h q (.tail _ (.head _))
    unfold F
    split
    · rename_i he
      obtain ⟨m, hm⟩ : ∃ m, q.2 = m + 1 := ⟨q.2 - 1, by have := hq.2.1; omega⟩
      have ih := sp_F rest fun x hx => h x (.tail _ (.tail _ hx))
      have := (sp_m hr.2.1 hr.2.2).app ((sp_61 (n := q.2 - 1) (by have := hq.2.2; omega)).app ih)
      rw [cs_cons, cs_cons, he.1, he.2]
      have e : List.replicate r.2 47 ++ [61] ++ (List.replicate (q.2 - 1) 61 ++ cs rest) = List.replicate r.2 47 ++ (List.replicate q.2 61 ++ cs rest) := by
        rw [hm, List.replicate_succ]; simp
      rw [← e]; exact this
    · rw [cs_cons]
      exact (sp_run hr).app (sp_F (q :: rest) fun x hx => h x (.tail _ hx))

/-! numbers of a piece -/
noncomputable def TW (t : Tk) : Prop := t = (23, mk [46]) ∨ t = (52, mk [46, 46, 46]) ∨ t = (22, mk [61]) ∨ t = (27, mk [61, 61]) ∨ ∃ n, 1 ≤ n ∧ t = (1, mk (List.replicate n 97))
theorem step_TW {acc : List (List Tk)} {t : Tk} (ht : TV t) (h : ∀ p ∈ acc, ∀ q ∈ p, TW q) : ∀ p ∈ stepP acc t, ∀ q ∈ p, TW q := by
  have app : ∀ p₀ : List Tk, (∀ q ∈ p₀, TW q) → ∀ p ∈ acc ++ [p₀], ∀ q ∈ p, TW q := fun p₀ h₀ p hp q hq => by
    rcases List.mem_append.mp hp with hp | hp
    · exact h p hp q hq
    · have : p = p₀ := by simpa using hp
      subst this; exact h₀ q hq
  have w22 : ∀ q ∈ [((22, eq1) : Tk)], TW q := fun q hq => by
    have : q = (22, eq1) := by simpa using hq
    rw [this, eq1_mk]; exact .inr (.inr (.inl rfl))
  have more : TW t → ∀ p ∈ acc.dropLast ++ [acc.getLast?.getD [] ++ [t]], ∀ q ∈ p, TW q := fun h₀ p hp q hq => by
    rcases List.mem_append.mp hp with hp | hp
    · exact h p (List.dropLast_subset _ hp) q hq
    · have : p = acc.getLast?.getD [] ++ [t] := by simpa using hp
      subst this
      rcases List.mem_append.mp hq with hq | hq
      · cases e : acc.getLast? with
        | none => rw [e] at hq; cases hq
        | some p' => rw [e] at hq; exact h p' (List.mem_of_getLast? e) q hq
      · have : q = t := by simpa using hq
        subst this; exact h₀
  rcases ht with rfl | rfl | rfl | rfl | rfl | rfl | rfl | rfl | ⟨n, h1, h2, rfl⟩
  · exact app [] (fun _ h => nomatch h)
  · exact app [] (fun _ h => nomatch h)
  · exact app _ w22
  · exact app _ w22
  · exact more (.inl rfl)
  · exact more (.inr (.inl rfl))
  · exact more (.inr (.inr (.inl rfl)))
  · exact more (.inr (.inr (.inr (.inl rfl))))
  · exact more (.inr (.inr (.inr (.inr ⟨n, h1, rfl⟩))))
theorem fold_TW : ∀ (ts : List Tk) (acc : List (List Tk)), (∀ t ∈ ts, TV t) → (∀ p ∈ acc, ∀ q ∈ p, TW q) → ∀ p ∈ ts.foldl stepP acc, ∀ q ∈ p, TW q
  | [], _, _, h => h
  | t :: l, _, hl, h => fold_TW l _ (fun q hq => hl q (.tail _ hq)) (step_TW (hl t (.head _)) h)
theorem pieces_TW {ts : List Tk} (h : ∀ t ∈ ts, TV t) : ∀ p ∈ piecesOf ts, ∀ q ∈ p, TW q := fold_TW ts [[]] h (by simp)

theorem pw_cons (t : Tk) (p : List Tk) : pw (t :: p) = wl t ++ pw p := by simp [pw]
theorem wl_ne {t : Tk} (h : TW t) : wl t ≠ [] := by
  rcases h with rfl | rfl | rfl | rfl | ⟨n, h1, rfl⟩
  · simp [wl]
  · simp [wl]
  · simp [wl]
  · simp [wl]
  · obtain ⟨m, rfl⟩ : ∃ m, n = m + 1 := ⟨n - 1, by omega⟩
    simp [wl, List.replicate_succ]
theorem pw_nil {p : List Tk} (h : ∀ q ∈ p, TW q) : pw p = [] ↔ p = [] := by
  cases p with
  | nil => simp [pw]
  | cons t p =>
    rw [pw_cons]
    simp [wl_ne (h t (.head _))]
/-- the word opens with one dot and goes on as v, v at most one sign: then the token is one dot -/
theorem tw_dot {t : Tk} (h : TW t) {x v : List Nat} (e : wl t ++ x = 46 :: v) (hv : v.length ≤ 1) : t = (23, mk [46]) ∧ x = v := by
  rcases h with rfl | rfl | rfl | rfl | ⟨n, h1, rfl⟩
  · refine ⟨rfl, ?_⟩
    simpa [wl] using e
  · have := congrArg List.length e
    simp [wl] at this
    omega
  · simp [wl] at e
  · simp [wl] at e
  · obtain ⟨m, rfl⟩ : ∃ m, n = m + 1 := ⟨n - 1, by omega⟩
    simp [wl, List.replicate_succ] at e
theorem tw_23 {t : Tk} (h : TW t) (e : t.1 = 23) : t = (23, mk [46]) := by
  rcases h with rfl | rfl | rfl | rfl | ⟨n, h1, rfl⟩
  · rfl
  all_goals exact absurd e (by simp)
theorem nums_1 {p : List Tk} (h : ∀ q ∈ p, TW q) : nums p = [23] ↔ pw p = [46] := by
  constructor
  · intro e
    obtain ⟨t, rfl, this⟩ : ∃ t, p = [t] ∧ t.1 = 23 := by
      have := List.map_eq_singleton_iff.mp e
      exact this
    rw [tw_23 (h t (.head _)) this]; rfl
  · intro e
    cases p with
    | nil => simp [pw] at e
    | cons t p =>
      rw [pw_cons] at e
      obtain ⟨h1, h2⟩ := tw_dot (h t (.head _)) e (by simp)
      have := (pw_nil fun q hq => h q (.tail _ hq)).mp h2
      rw [this, h1]; rfl
theorem nums_2 {p : List Tk} (h : ∀ q ∈ p, TW q) : nums p = [23, 23] ↔ pw p = [46, 46] := by
  constructor
  · intro e
    obtain ⟨t, r, rfl, e1, e2⟩ := List.map_eq_cons_iff.mp e
    obtain ⟨u, rfl, e3⟩ := List.map_eq_singleton_iff.mp e2
    rw [tw_23 (h t (.head _)) e1, tw_23 (h u (.tail _ (.head _))) e3]; rfl
  · intro e
    cases p with
    | nil => simp [pw] at e
    | cons t p =>
      rw [pw_cons] at e
      obtain ⟨h1, h2⟩ := tw_dot (h t (.head _)) e (by simp)
      have hp := (nums_1 fun q hq => h q (.tail _ hq)).mpr h2
      rw [h1]
      show 23 :: nums p = _
      rw [hp]
theorem nums_0 {p : List Tk} (h : ∀ q ∈ p, TW q) : nums p = [] ↔ pw p = [] := by
  rw [pw_nil h]; simp [nums]

/-! the ups of the pieces are the ups of their words -/
noncomputable def mkU (a : Nat × List (List Nat)) : Nat × List Str := (a.1, a.2.map mk)
theorem step_U {p : List Tk} (h : ∀ q ∈ p, TW q) (a : Nat × List (List Nat)) : stepU (mkU a) p = mkU (bw a (pw p)) := by
  have e2 : (nums p == [23, 23]) = (pw p == L2) := by rw [Bool.eq_iff_iff]; simp [nums_2 h]
  have e1 : (nums p == [23]) = (pw p == [46]) := by rw [Bool.eq_iff_iff]; simp [nums_1 h]
  have e0 : (nums p == []) = (pw p).isEmpty := by rw [Bool.eq_iff_iff]; simp [nums_0 h]
  unfold stepU bw skp
  rw [e2, e1, e0, word_mk]
  obtain ⟨u, k⟩ := a
  simp only [mkU]
  cases pw p == L2
  · cases (pw p).isEmpty
    · cases pw p == [46]
      · cases u with
        | zero => rfl
        | succ u => simp
      · rfl
    · rfl
  · rfl
theorem fold_U : ∀ (ps : List (List Tk)) (a : Nat × List (List Nat)), (∀ p ∈ ps, ∀ q ∈ p, TW q) → ps.foldl stepU (mkU a) = mkU ((ps.map pw).foldl bw a)
  | [], _, _ => rfl
  | p :: ps, a, h => by
    rw [List.foldl_cons, step_U (h p (.head _)), fold_U ps _ fun q hq => h q (.tail _ hq)]; rfl
theorem kept_U {ps : List (List Tk)} (h : ∀ p ∈ ps, ∀ q ∈ p, TW q) : keptOf ps.reverse = mkU (bwd (0, []) (ps.map pw)) := by
  unfold keptOf bwd
  rw [← List.map_reverse]
  exact fold_U ps.reverse (0, []) fun p hp => h p (List.mem_reverse.mp hp)

/-! the stack of the parts -/
theorem step_N (root : List Nat) (acc : List (List Nat)) (w : List Nat) : stepN (mk root) (acc.map mk) (mk w) = (fw (!root.isEmpty) acc w).map mk := by
  have l0 : ∀ x : List Nat, (((mk x).length : Int) != 0) = !x.isEmpty := fun x => by
    rw [mk_len]
    cases x with
    | nil => rfl
    | cons a x => simp; omega
  have g : ((acc.map mk).getLast?.getD e0 == dd) = (acc.getLast?.getD [] == L2) := by
    rw [e0_mk, dd_mk, List.getLast?_map]
    cases acc.getLast? with
    | none => exact beq_mk _ _
    | some x => exact beq_mk _ _
  have b1 : (mk w == dt) = (w == [46]) := by rw [dt_mk, beq_mk]
  have b2 : (mk w != dd) = (w != L2) := by rw [dd_mk, bne_mk]
  unfold stepN fw skp
  rw [l0, l0, g, b1, b2, List.isEmpty_map]
  simp only [Bool.not_not]
  split
  · rfl
  · split
    · simp
    · split
      · simp
      · rename_i h
        have : acc = [] := by
          cases acc with
          | nil => rfl
          | cons a acc => simp at h
        subst this; rfl
theorem norm_fwd (root : List Nat) (ws : List (List Nat)) : normCs (mk root) (ws.map mk) = (fwd (!root.isEmpty) ws).map mk := by
  unfold normCs fwd
  have : ∀ (ws acc : List (List Nat)), (ws.map mk).foldl (stepN (mk root)) (acc.map mk) = (ws.foldl (fw (!root.isEmpty)) acc).map mk := by
    intro ws
    induction ws with
    | nil => intro _; rfl
    | cons w ws ih => intro acc; rw [List.map_cons, List.foldl_cons, step_N, ih]; rfl
  exact this ws []
end Mine
end

section
namespace Mine
open PySem PyProof.Rows

/-! slashes ahead, sizes of parts -/
theorem sp_cons47 (l : List Nat) : sp (47 :: l) = [] :: sp l := by
  have : ∀ (l : List Nat) (acc : List (List Nat)), acc ≠ [] → l.foldl stepC ([] :: acc) = [] :: l.foldl stepC acc := by
    intro l
    induction l with
    | nil => intro _ _; rfl
    | cons c l ih =>
      intro acc h
      have e : stepC ([] :: acc) c = [] :: stepC acc c := by
        obtain ⟨J, z, rfl⟩ : ∃ J z, acc = J ++ [z] := ⟨_, _, (List.dropLast_concat_getLast h).symm⟩
        by_cases hc : c = 47
        · subst hc
          show stepC (([] :: J) ++ [z]) 47 = _
          rw [stepC_47, stepC_47]; rfl
        · show stepC (([] :: J) ++ [z]) c = _
          rw [stepC_ch hc, stepC_ch hc]; rfl
      rw [List.foldl_cons, e, ih _ (stepC_ne acc c)]; rfl
  exact this l [[]] (by simp)
theorem sp_rep (n : Nat) (l : List Nat) : (sp (List.replicate n 47 ++ l)).filter ne = (sp l).filter ne := by
  induction n with
  | zero => rfl
  | succ n ih => rw [List.replicate_succ, List.cons_append, sp_cons47]; exact ih
theorem tot_sp : ∀ l : List Nat, tot (sp l) = l.length + 1 := snoc_ind rfl fun l c ih => by
  obtain ⟨J, z, e⟩ := sp_split l
  rw [sp_snoc]
  rw [e] at ih ⊢
  rw [tot_app] at ih
  by_cases h : c = 47
  · subst h; rw [stepC_47, tot_app, tot_app, List.length_append]; simp only [tot, List.map_cons, List.map_nil, List.sum_cons, List.sum_nil, List.length_cons, List.length_nil] at *; omega
  · rw [stepC_ch h, tot_app, List.length_append]; simp only [tot, List.map_cons, List.map_nil, List.sum_cons, List.sum_nil, List.length_cons, List.length_nil, List.length_append] at *; omega
theorem jn_tot : ∀ ls : List (List Nat), (jn [47] ls).length ≤ tot ls
  | [] => by simp [jn]
  | [x] => by simp [jn, tot]
  | x :: y :: r => by
    have := jn_tot (y :: r)
    simp only [jn, List.length_append, tot, List.map_cons, List.sum_cons, List.length_cons, List.length_nil] at *
    omega

theorem rootL_cons (r : Run) (l : List Run) : rootL (r :: l) = if r.1 = 47 then (if r.2 = 2 then [47, 47] else [47]) else [] := rfl
theorem root_rep (runs : List Run) : rootL runs = List.replicate (rootL runs).length 47 := by
  cases runs with
  | nil => rfl
  | cons r l =>
    rw [rootL_cons]
    split
    · split <;> rfl
    · rfl
theorem root_len (runs : List Run) : (rootL runs).length ≤ 2 := by
  cases runs with
  | nil => simp [rootL]
  | cons r l =>
    rw [rootL_cons]
    split
    · split <;> simp
    · simp
theorem rootL_one (r : Run) (l : List Run) : rootL (r :: l) = rootL [(r.1, r.2)] := rfl
theorem root_pre {runs : List Run} (h : ∀ r ∈ runs, RunOk r) : cs runs = rootL runs ++ (cs runs).drop (rootL runs).length := by
  cases runs with
  | nil => rfl
  | cons r l =>
    have hr := h r (.head _)
    have h1 := hr.2.1
    obtain ⟨m, hm⟩ : ∃ m, r.2 = m + 1 := ⟨r.2 - 1, by omega⟩
    rw [rootL_cons]
    split
    · rename_i he
      split
      · rename_i h2
        rw [cs_cons, he, h2]; rfl
      · rw [cs_cons, he, hm, List.replicate_succ]; rfl
    · rfl
theorem cs_ne {runs : List Run} (h : ∀ r ∈ runs, RunOk r) (hne : runs ≠ []) : cs runs ≠ [] := by
  cases runs with
  | nil => exact absurd rfl hne
  | cons r l =>
    have h1 := (h r (.head _)).2.1
    obtain ⟨m, hm⟩ : ∃ m, r.2 = m + 1 := ⟨r.2 - 1, by omega⟩
    rw [cs_cons, hm, List.replicate_succ]; simp
theorem split_R {runs : List Run} (h : ∀ r ∈ runs, RunOk r) (ha : Adj runs) (hne : runs ≠ []) : splitrootF (mk (cs runs)) = (mk (rootL runs), mk ((cs runs).drop (rootL runs).length)) := by
  cases runs with
  | nil => exact absurd rfl hne
  | cons r l =>
    have hr := h r (.head _)
    rw [cs_cons, rootL_one]
    refine split_L hr.2.1 ?_
    cases l with
    | nil =>
      show 0 ≠ r.1
      rcases hr.1 with e | e | e | e <;> rw [e] <;> decide
    | cons q l =>
      rw [cs_head (h q (.tail _ (.head _)))]
      exact ha.1.symm
theorem starts_R {runs : List Run} (h : ∀ r ∈ runs, RunOk r) (hne : runs ≠ []) : Txt.startswith (mk (cs runs)) sl = (mk (rootL runs) != e0) := by
  rw [starts_mk, e0_mk, bne_mk]
  cases runs with
  | nil => exact absurd rfl hne
  | cons r l =>
    have h1 := (h r (.head _)).2.1
    obtain ⟨m, hm⟩ : ∃ m, r.2 = m + 1 := ⟨r.2 - 1, by omega⟩
    rw [cs_cons, hm, List.replicate_succ]
    rw [rootL_cons]
    rw [hm]
    by_cases h47 : r.1 = 47
    · rw [if_pos h47, h47]
      split <;> simp
    · rw [if_neg h47]
      simp [h47]

/-! the normal form -/
theorem parts_R {runs : List Run} (h : ∀ r ∈ runs, RunOk r) : (sp ((cs runs).drop (rootL runs).length)).filter ne = ((piecesOf (F runs)).map pw).filter ne := by
  have hs := sp_F runs h
  rw [parts_eq hs.tv, hs.wd]
  have e : cs runs = List.replicate (rootL runs).length 47 ++ (cs runs).drop (rootL runs).length := by
    rw [← root_rep]; exact root_pre h
  conv => rhs; rw [e]
  rw [sp_rep]
theorem norm_R {runs : List Run} (h : ∀ r ∈ runs, RunOk r) : normCs (mk (rootL runs)) (Txt.split (mk ((cs runs).drop (rootL runs).length)) sl) = keptF (mk (rootL runs)) (piecesOf (F runs)) := by
  have hs := sp_F runs h
  rw [split_sp, norm_fwd, ← fwd_filter]
  have e : (sp ((cs runs).drop (rootL runs).length)).filter (fun w => !w.isEmpty) = ((piecesOf (F runs)).map pw).filter (fun w => !w.isEmpty) := parts_R h
  rw [e, fwd_filter, fwd_bwd]
  unfold keptF
  rw [kept_U (pieces_TW hs.tv), e0_mk, beq_mk]
  cases rootL runs with
  | nil =>
    have : (([] : List Nat) == []) = true := rfl
    rw [this]
    simp only [mkU, List.isEmpty_nil, Bool.not_true, Bool.false_eq_true, if_false, if_true, List.map_append, List.map_replicate, ← dd_mk]
  | cons a l =>
    have : ((a :: l) == ([] : List Nat)) = false := rfl
    rw [this]
    simp [mkU]

theorem strOk_mk {l : List Nat} (h : Al l) : PyData.strOk (mk l) = true := by
  unfold PyData.strOk
  rw [Array.all_eq_true_iff_forall_mem]
  intro k hk
  have := h k (by simpa using hk)
  simp only [decide_eq_true_eq]
  omega
theorem Al.drop {l : List Nat} (h : Al l) (n : Nat) : Al (l.drop n) := fun k hk => h k (List.mem_of_mem_drop hk)
theorem ends_ok {runs : List Run} (h : ∀ r ∈ runs, RunOk r) : PyData.strOk (endsF runs).1 = true ∧ PyData.strOk (endsF runs).2 = true := by
  have ht : ∀ k, (wordsOf runs).take k = wordsOf (runs.take k) := fun k => by unfold wordsOf; rw [List.map_take]
  have hd : ∀ k, (wordsOf runs).drop k = wordsOf (runs.drop k) := fun k => by unfold wordsOf; rw [List.map_drop]
  have ok : ∀ l : List Run, (∀ r ∈ l, r ∈ runs) → PyData.strOk (Txt.join e0 (wordsOf l)) = true := fun l hl => by
    rw [join_words]; exact strOk_mk (cs_al fun r hr => h r (hl r hr))
  unfold endsF
  split
  · refine ⟨?_, ok runs fun _ hr => hr⟩
    show PyData.strOk e0 = true
    rw [e0_mk]; exact strOk_mk (fun _ hk => nomatch hk)
  · simp only [ht, hd]
    refine ⟨?_, ok _ fun _ hr => List.mem_of_mem_drop hr⟩
    split
    · exact ok _ fun _ hr => List.mem_of_mem_take hr
    · exact ok _ fun _ hr => List.mem_of_mem_take hr
theorem TV.pos {t : Tk} (h : TV t) : t.1 ≠ 0 := by
  rcases h with rfl | rfl | rfl | rfl | rfl | rfl | rfl | rfl | ⟨n, h1, h2, rfl⟩ <;> simp

theorem law_of {runs : List Run} (h : ∀ r ∈ runs, RunOk r) (ha : Adj runs) (hne : runs ≠ []) (hl : runs.length ≤ 20) : Law runs := by
  have hs := sp_F runs h
  have hlen := cs_len h
  have hrl := root_len runs
  have htd := told_F h ha
  have hrt := root_L h ha hne
  have htx := text_mk runs
  have hsp := split_R h ha hne
  have hnr := norm_R h
  have hrest : ((cs runs).drop (rootL runs).length).length ≤ 80 := by rw [List.length_drop]; omega
  have hsplit := split_sp ((cs runs).drop (rootL runs).length)
  have htot := tot_sp ((cs runs).drop (rootL runs).length)
  have hft := fwd_tot (!(rootL runs).isEmpty) (sp ((cs runs).drop (rootL runs).length))
  have hnf : normCs (mk (rootL runs)) (Txt.split (mk ((cs runs).drop (rootL runs).length)) sl) = (fwd (!(rootL runs).isEmpty) (sp ((cs runs).drop (rootL runs).length))).map mk := by rw [hsplit, norm_fwd]
  have hjl : (Txt.join sl (normCs (mk (rootL runs)) (Txt.split (mk ((cs runs).drop (rootL runs).length)) sl))).length ≤ 81 := by
    rw [hnf, sl_mk, join_mk, mk_len]
    have := jn_tot (fwd (!(rootL runs).isEmpty) (sp ((cs runs).drop (rootL runs).length)))
    omega
  have hjo : JoinOk sl (normCs (mk (rootL runs)) (Txt.split (mk ((cs runs).drop (rootL runs).length)) sl)) = true := by
    rw [hnf]
    refine joinOk_of (by decide) ?_ ?_
    · rw [List.length_map]
      have := tot_len (fwd (!(rootL runs).isEmpty) (sp ((cs runs).drop (rootL runs).length)))
      omega
    · intro w hw
      obtain ⟨x, hx, rfl⟩ := List.mem_map.mp hw
      rw [mk_len]
      have := tot_mem hx
      omega
  have hen := ends_L h ha
  have heo := ends_ok h
  have hslice : Txt.slice (mk (cs runs)) (some ((mk (rootL runs)).length : Int)) none = mk ((cs runs).drop (rootL runs).length) := by rw [mk_len]; exact slice_from _ _
  constructor
  case ok => exact h
  case len => exact hl
  case ne => exact hne
  case told => rw [htd]; exact F_ne h hne
  case pos => rw [htd]; exact fun t ht => (hs.tv t ht).pos
  case read => rw [htd, htx]; exact read_F runs h ha (by omega)
  case size => rw [htx, mk_len]; omega
  case sok => rw [htx]; exact strOk_mk (cs_al h)
  case abs => rw [htx, hrt]; exact starts_R h hne
  case rootl => rw [hrt, mk_len]; omega
  case split => rw [htx, hrt, hsp, hslice]
  case head => exact hen.1
  case tail => exact hen.2
  case hz =>
    rw [htx, hsp, length_partsBetween, sizeLine_eq]
    have := StrLaws.occ_length_le (mk ((cs runs).drop (rootL runs).length)) sl 0 (mk ((cs runs).drop (rootL runs).length)).length ((mk ((cs runs).drop (rootL runs).length)).length + 1)
    rw [mk_len] at this
    simp only [mk_len] at this ⊢
    omega
  case hl =>
    rw [htx, hsp, hsplit, List.length_map]
    have := tot_len (sp ((cs runs).drop (rootL runs).length))
    omega
  case hc =>
    rw [htx, hsp, hsplit]
    intro w hw
    obtain ⟨x, hx, rfl⟩ := List.mem_map.mp hw
    rw [mk_len]
    have := tot_mem hx
    omega
  case hn => rw [htx, hsp]; simp only [mk_len]; omega
  case hj => rw [htx, hsp]; exact hjo
  case hj2 => rw [htd, hrt, ← hnr]; exact hjo
  case hn2 => rw [htd, hrt, ← hnr, mk_len]; omega
  case rok => rw [hrt, root_rep]; exact strOk_mk (fun k hk => .inl (List.eq_of_mem_replicate hk))
  case restok => rw [htx, hrt, hslice]; exact strOk_mk ((cs_al h).drop _)
  case e1ok => exact heo.1
  case e2ok => exact heo.2
  case norm =>
    have hn0 : (((mk (cs runs)).length : Int) != 0) = true := by
      rw [mk_len]
      have := cs_ne h hne
      simp [this]
    unfold normF normalF normP
    rw [htx, htd, hrt, hn0, hsp, if_pos rfl]
    simp only
    rw [hnr]
theorem law_plain (ns : List Int) (_ : ns.length ≤ 63) : Law (runsOf (drawsOf ns)) := by
  have hd : (drawsOf ns).length ≤ 16 ∧ drawsOf ns ≠ [] := by
    unfold drawsOf
    split
    · simp
    · rename_i hq
      refine ⟨by rw [List.length_map, List.length_take]; omega, fun w => hq ?_⟩
      rw [List.map_eq_nil_iff] at w
      rw [w]; rfl
  exact law_of (runsOf_ok _) (runsOf_adj _) (runsOf_ne hd.2) (by have := runsOf_len (drawsOf ns); omega)
end Mine
end

section
namespace Mine
open PySem PySem.W PySem.Calls PyProof.Rows

/-- a name held, so that the head makes no twin of the whole text (its proof is large) -/
noncomputable def holdsT.tw11223986071915875719 : Nat := 0
set_option Elab.async true in
set_option maxHeartbeats 8000000 in
theorem holdsT : rwT.Holds := by
  w_on
  o_law
  o_head hk
  (case hw => w_witness2)
  exact walkT law_plain ⟨by kernel_rfl, by kernel_rfl, by decide +kernel⟩
end Mine
theorem PySem.Challenge.cw_mj0188_01_holds : PySem.Challenge.rw_mj0188_01.Holds := by
  rw [Mine.rwT_eq]; exact Mine.holdsT
end
