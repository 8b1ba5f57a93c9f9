import PyProof.Rows.All
import Wide.All
import OpenK.AllK
import Wide.FinOn
import PySem.Challenge.RW_ft0008_01
open PySem PySem.W PyProof.Rows
set_option Elab.async false
set_option maxRecDepth 100000
set_option maxHeartbeats 8000000
set_option linter.unusedVariables false
set_option linter.unusedSimpArgs false
open_top Mine.hd for PySem.Challenge.rw_ft0008_01
namespace Mine


/-- what a call of the def at f with the arguments vs does, over the ledger news -/
def Tri (w : World) (p : Program) (loose : List Str) (mean : ExcName → Option Value) (mg mb : Str → Option Value) (f : Addr) (vs : List Value) (news : List (Addr × Obj)) (dd du : Nat) (Post : Value → List (Addr × Obj) → Prop) : Prop :=
  ∀ (dp un : Nat) (gd : Option (List Code)) (cn : Str) (cs : Scope) (a : Addr) (ccd : Value) (cl : List (Str × Addr)) (outer : List Env) (A₀ : Around) (base h₀ : Heap) (L : Addr) (m : Str → Option Value) (s : Shared)
    (Q E : Value → Shared → Prop),
    Below A₀ base outer h₀ → Fr h₀ L s.heap m → (hd.heap_39 w.params).In h₀ → News h₀ L s.heap news → Top p loose mean mg mb h₀ → cs.kind = .function → dp + dd < recursionLimit → un + du < cLine →
    (∀ r news' h' tk', Post r news' → Fr h₀ L h' m → News h₀ L h' news' → Q r { s with heap := h', toks := tk' }) →
    wpAny (model PySem.Challenge.rw_ft0008_01.row.prog w) (ktrTop dp un gd cn cs L a ccd cl outer) (call (.ref f) vs) Q E s

/-- a level of a chain of views: the view, its dict, its two lists and what is in them -/
structure Lv where
  v : Addr
  dv : Addr
  d : Addr
  it : Addr
  off : Int
  t1 : Tok
  t2 : Tok
  t3 : Tok
  t4 : Tok
  to : Tok
  xs : List Value
  nd : Nat
  ys : List Value
  ni : Nat

def parOf : List Lv → Value
  | [] => .none
  | l :: _ => .ref l.v
def offOf (l : Lv) : List Lv → Value
  | [] => .none
  | _ :: _ => .int l.off l.to

abbrev vDict (w : World) (d it : Addr) (par off : Value) (t1 t2 t3 t4 : Tok) : Obj :=
  dictOf [⟨PyData.keyHash w.params (Str.ofString "data"), .str (Str.ofString "data") t1, .ref d⟩, ⟨PyData.keyHash w.params (Str.ofString "items"), .str (Str.ofString "items") t2, .ref it⟩,
    ⟨PyData.keyHash w.params (Str.ofString "parent"), .str (Str.ofString "parent") t3, par⟩, ⟨PyData.keyHash w.params (Str.ofString "parent_offset"), .str (Str.ofString "parent_offset") t4, off⟩] 4

noncomputable def led (w : World) : List Lv → List (Addr × Obj)
  | [] => []
  | l :: r => (l.v, instObj 266 l.dv) :: (l.dv, vDict w l.d l.it (parOf r) (offOf l r) l.t1 l.t2 l.t3 l.t4) :: (l.d, listOf l.xs.toArray l.nd) :: (l.it, listOf l.ys.toArray l.ni) :: led w r

end Mine
namespace Mine
section
variable {w : World} {p : Program} {loose : List Str} {mean : ExcName → Option Value} {mg mb : Str → Option Value} {f : Addr} {vs : List Value} {news : List (Addr × Obj)} {dd du : Nat} {Post : Value → List (Addr × Obj) → Prop}
theorem tri_use {dp un : Nat} {gd : Option (List Code)} {cn : Str} {cs : Scope} {a : Addr} {ccd : Value} {cl : List (Str × Addr)} {outer : List Env} {A₀ : Around} {base h₀ : Heap} {L : Addr} {m : Str → Option Value} {s : Shared}
    {Q E : Value → Shared → Prop} (H : Tri w p loose mean mg mb f vs news dd du Post) (B : Below A₀ base outer h₀) (F : Fr h₀ L s.heap m) (X : (hd.heap_39 w.params).In h₀) (N : News h₀ L s.heap news) (T : Top p loose mean mg mb h₀) (hk : cs.kind = .function)
    (hd : dp + dd < recursionLimit) (hu : un + du < cLine)
    (ret : ∀ r news' h' tk', Post r news' → Fr h₀ L h' m → News h₀ L h' news' → Q r { s with heap := h', toks := tk' }) :
    wpAny (model PySem.Challenge.rw_ft0008_01.row.prog w) (ktrTop dp un gd cn cs L a ccd cl outer) (call (.ref f) vs) Q E s := H _ _ _ _ _ _ _ _ _ _ _ _ _ _ _ _ _ B F X N T hk hd hu ret

theorem newsSub {h₀ h : Heap} {L : Addr} {l l' : List (Addr × Obj)} (N : News h₀ L h l) (hs : ∀ p ∈ l', p ∈ l) : News h₀ L h l' := fun p hp => N p (hs p hp)
end

def Sep (news : List (Addr × Obj)) : Prop := (news.map Prod.fst).Nodup
theorem Sep.of_map {l l' : List (Addr × Obj)} (h : Sep l) (e : l'.map Prod.fst = l.map Prod.fst) : Sep l' := by unfold Sep at *; rw [e]; exact h
theorem Sep.perm {l l' : List (Addr × Obj)} (h : Sep l) (e : l'.Perm l) : Sep l' := (e.map Prod.fst).nodup_iff.mpr h

theorem popAt {w : World} {A : Around} {E : Value → Shared → Prop} {s : Shared} {h₀ : Heap} {L D : Addr} {m : Str → Option Value} {news news' : List (Addr × Obj)} {n : Nat} {i : Int} {u : Tok} {k : Nat} {xs : List Value} {y : Value} {Q : Value → Shared → Prop}
    (F : Fr h₀ L s.heap m) (N : News h₀ L s.heap news) (U : Upd D (listOf xs.toArray n) (listOf (xs.eraseIdx k).toArray (n + 1)) news news') (hi : i = k ∨ i = k - (xs.length : Int)) (hy : xs[k]? = some y) (hz : xs.length ≤ 1000)
    (h : ∀ h', Fr h₀ L h' m → News h₀ L h' news' → Q y { s with heap := h' }) : wpAny (model PySem.Challenge.rw_ft0008_01.row.prog w) A (call (.builtin "list.pop") [.ref D, .int i u]) Q E s := by
  have hk : k < xs.length := by
    rcases Nat.lt_or_ge k xs.length with h | h
    · exact h
    · rw [List.getElem?_eq_none h] at hy; cases hy
  have hcut : ∀ (l : List Value) (k : Nat) (y : Value), l[k]? = some y → kl_cut l k = some (l.take k, y, l.drop (k + 1)) := by
    intro l
    induction l with
    | nil => intro k y h; simp at h
    | cons a r ih =>
      intro k y h
      cases k with
      | zero => simp at h; subst h; rfl
      | succ k => simp at h; simp [kl_cut, ih k y h]
  have he : xs.take k ++ xs.drop (k + 1) = xs.eraseIdx k := (List.eraseIdx_eq_take_drop_succ xs k).symm
  refine kl_popAt (p := xs.take k) (q := xs.drop (k + 1)) (k := k) F N ?_ ?_ (by simpa using hcut xs k y hy) (by rw [he]; exact U) (by rw [sizeLine_eq]; simp; omega) h
  · rcases hi with rfl | rfl <;> simp [Builtin.List.listFitsIndex] <;> omega
  · rcases hi with rfl | rfl <;> simp [seqIndex?] <;> omega
end Mine
namespace Mine
theorem lenAny {prog : Program} {w : World} {A : Around} {E : Value → Shared → Prop} {s : Shared} {h₀ : Heap} {L l : Addr} {news : List (Addr × Obj)} {us : List Value} {c : Nat} {Q : Value → Shared → Prop} (N : News h₀ L s.heap news) (hm : (l, listOf us.toArray c) ∈ news) (hfit : (us.length : Int) < 2 ^ 63)
    (h : Q (.int (us.length : Int) (s.toks + 1)) { s with toks := s.toks + 1 + 1 }) : wpAny (model prog w) A (call (.builtin "len") [.ref l]) Q E s := kst_len N hm rfl hfit h
end Mine
namespace Mine
def insAtL (xs : List Value) (k : Nat) (x : Value) : List Value := xs.take k ++ x :: xs.drop k
theorem insAt {w : World} {A : Around} {E : Value → Shared → Prop} {s : Shared} {h₀ : Heap} {L D : Addr} {m : Str → Option Value} {news news' : List (Addr × Obj)} {n : Nat} {i : Int} {u : Tok} {k : Nat} {xs : List Value} {y : Value} {Q : Value → Shared → Prop}
    (F : Fr h₀ L s.heap m) (N : News h₀ L s.heap news) (U : Upd D (listOf xs.toArray n) (listOf (insAtL xs k y).toArray (n + 1)) news news') (hi : i = k) (hk : k ≤ xs.length) (hz : xs.length ≤ 1000)
    (h : ∀ h', Fr h₀ L h' m → News h₀ L h' news' → Q .none { s with heap := h' }) : wpAny (model PySem.Challenge.rw_ft0008_01.row.prog w) A (call (.builtin "list.insert") [.ref D, .int i u, y]) Q E s := by
  subst hi
  refine kl_insert (l := insAtL xs k y) F N ?_ ?_ U (by rw [sizeLine_eq]; simp; omega) h
  · simp [Builtin.List.listFitsIndex] <;> omega
  · unfold kl_ins insAtL
    simp
    rw [if_neg (by omega), Nat.min_eq_left hk]
theorem insAtL_length (xs : List Value) (k : Nat) (x : Value) (h : k ≤ xs.length) : (insAtL xs k x).length = xs.length + 1 := by
  unfold insAtL; simp; omega
end Mine
namespace Mine
theorem sliceAny {prog : Program} {w : World} {A : Around} {E : Value → Shared → Prop} {s : Shared} {h₀ : Heap} {L l : Addr} {m : Str → Option Value} {news : List (Addr × Obj)} {value slice : PySem.Expr} {xs : List Value} {n : Nat} {vl vu : Value} {lo hi : Option Int} {Q : Value → Shared → Prop}
    (F : Fr h₀ L s.heap m) (N : News h₀ L s.heap news) (hl : (l, listOf xs.toArray n) ∈ news) (pl : IsPart vl lo) (pu : IsPart vu hi)
    (h : ∀ D h', Fr h₀ L h' m → News h₀ L h' ((D, listOf (kms_pick xs lo hi).toArray 0) :: news) → (∀ p ∈ news, p.1 < D) → Q (.ref D) { s with heap := h' })
    (hs : subscripted slice false (.ref l) (.ref s.heap.objs.size) = operate [.ref s.heap.objs.size, .ref l] (getItem (.ref l) (.ref s.heap.objs.size))) (ht : ∀ r, letTemporaryGo value (.ref l) r = pure ()) (hz : xs.length ≤ 1000) :
    wpAny (model prog w) A (subscriptTail value slice (.ref l) (.ref s.heap.objs.size)) Q E { s with heap := s.heap.push { cls := .type "slice", data := .fields #[vl, vu, .none] } } := by
  have hl' : s.heap.IsList l xs.toArray := ⟨_, (N _ hl).1, rfl, n, rfl⟩
  exact kms_slice_lit F N hl' pl pu (by simp) h hs ht (by rw [sizeLine_eq, List.size_toArray]; omega)
theorem pickRun (xs : List Value) (a b : Nat) (ha : a ≤ xs.length) (hb : b ≤ xs.length) : kms_pick xs (some (a : Int)) (some (b : Int)) = (xs.drop a).take (b - a) := by
  unfold kms_pick kms_lo kms_hi
  simp only []
  rw [if_neg (by omega), if_neg (by omega), show min (a : Int).toNat xs.length = a by omega, show min (b : Int).toNat xs.length = b by omega]
end Mine
namespace Mine
theorem truthyPos {prog : Program} {w : World} {A : Around} {E : Value → Shared → Prop} {s : Shared} {h₀ : Heap} {L l : Addr} {news : List (Addr × Obj)} {us : List Value} {c : Nat} {Q : Bool → Shared → Prop} (N : News h₀ L s.heap news) (hm : (l, listOf us.toArray c) ∈ news) (hp : 0 < us.length) (hfit : us.length ≤ 1000)
    (h : Q true { s with toks := s.toks + 1 + 1 }) : wpAny (model prog w) A (truthy (.ref l)) Q E s := by
  refine wpAny_truthy_list ⟨_, (N _ hm).1, rfl, c, rfl⟩ (by rw [List.size_toArray]; omega) ?_
  have e : (!us.toArray.isEmpty) = true := by
    cases us with
    | nil => simp at hp
    | cons _ _ => simp
  rw [e]; exact h
theorem copyAny {prog : Program} {w : World} {A : Around} {E : Value → Shared → Prop} {s : Shared} {h₀ : Heap} {L l : Addr} {m : Str → Option Value} {news : List (Addr × Obj)} {us : List Value} {n : Nat} {Q : Value → Shared → Prop} (F : Fr h₀ L s.heap m) (N : News h₀ L s.heap news) (hm : (l, listOf us.toArray n) ∈ news) (hfit : us.length ≤ 1000)
    (h : ∀ D c h', Fr h₀ L h' m → News h₀ L h' ((D, listOf us.toArray c) :: news) → (∀ q ∈ news, q.1 < D) → Q (.ref D) { s with heap := h' }) :
    wpAny (model prog w) A (call (.type "list") [.ref l]) Q E s := list_copyK F N ⟨_, (N _ hm).1, rfl, n, rfl⟩ h (by rw [sizeLine_eq, List.size_toArray]; omega)
end Mine
namespace Mine
local macro_rules | `(tactic| k_room) => `(tactic| ((try simp only [depth_under_make, depth_under_kw, depth_in1, depth_deeper, depth_caller] at *); (try dsimp only [ktrTop] at *); (simp only [recursionLimit] at *); omega))
local macro_rules | `(tactic| walk_at "enter own") => `(tactic| (refine' code_def ?k1 ?k2 ?k3 ?k4 ?k5 ?kA ?kF ?kK ?k6 ?k7 ?k8 ?k9 ?kB ?_ ?c2 ?c3 ?c4 ?c5; (case kA => exact rfl); (case kF => exact rfl); (case kK => assumption); (case k1 => k_asm); (case k2 => k_asm); (case k3 => k_asm); (case k4 => k_asm); (case k5 => k_asm); (case k6 => k_is); (case k7 => k_is); (case k8 => ktr_room); (case k9 => first | exact BindsTo.of_eq rfl | exact binds_K (by k_in) rfl (by k_is) rfl rfl rfl); (case c5 => decide); (case kB => exact locs rfl); (case c2 => exact rfl); (case c3 => exact rfl); (case c4 => exact rfl); k_whole; intro g' L' h' FG' F' N' B' X' T'; (try dsimp only); (try k_fold)))

local macro_rules | `(tactic| walk_at "call builtin:len") => `(tactic| (k_here; (with_reducible show wpAny _ _ (call (Value.builtin "len") [Value.ref _]) _ _ _); k_dflt (refine' lenAny ?k1 ?k2 ?k4 ?_; (case k1 => k_asm); (case k2 => k_mem); (case k4 => omega); k_whole)))
noncomputable def popL : List Lv → Nat → List Lv
  | [], _ => []
  | l :: r, k => { l with xs := l.xs.eraseIdx k, nd := l.nd + 1, ys := l.ys.eraseIdx k, ni := l.ni + 1 } :: popL r (k + l.off.toNat)
noncomputable def popOk : List Lv → Nat → Prop
  | [], _ => True
  | l :: r, k => k < l.xs.length ∧ l.ys.length = l.xs.length ∧ l.xs.length ≤ 100 ∧ 0 ≤ l.off ∧ popOk r (k + l.off.toNat)
theorem parOf_cons (l : Lv) (r : List Lv) : parOf (l :: r) = .ref l.v := rfl
theorem offOf_cons (l l2 : Lv) (r : List Lv) : offOf l (l2 :: r) = .int l.off l.to := rfl
theorem parOf_popL (r : List Lv) (k : Nat) : parOf (popL r k) = parOf r := by cases r <;> rfl
theorem offOf_popL (l : Lv) (r : List Lv) (k : Nat) : offOf l (popL r k) = offOf l r := by cases r <;> rfl
theorem addr_popL (w : World) : ∀ (C : List Lv) (k : Nat), (led w (popL C k)).map Prod.fst = (led w C).map Prod.fst
  | [], _ => rfl
  | l :: r, k => by simp [popL, led, addr_popL w r]

theorem Sep.upd1 {a b : Addr × Obj} {d : Addr} {o o' : Obj} {e : Addr × Obj} {tl : List (Addr × Obj)} (h : Sep (a :: b :: (d, o) :: e :: tl)) : Upd d o o' (a :: b :: (d, o) :: e :: tl) (a :: b :: (d, o') :: e :: tl) := by
  simp only [Sep, List.map_cons, List.nodup_cons, List.mem_cons, not_or] at h
  refine .tail (by grind) (.tail (by grind) (.head ?_))
  intro p hp
  have : ∀ q ∈ tl, q.1 ≠ d := by intro q hq e; exact h.2.2.1.2 (List.mem_map.mpr ⟨q, hq, e⟩)
  rcases List.mem_cons.mp hp with rfl | hp
  · grind
  · exact this p hp
theorem Sep.upd2 {a b c : Addr × Obj} {d : Addr} {o o' : Obj} {tl : List (Addr × Obj)} (h : Sep (a :: b :: c :: (d, o) :: tl)) : Upd d o o' (a :: b :: c :: (d, o) :: tl) (a :: b :: c :: (d, o') :: tl) := by
  simp only [Sep, List.map_cons, List.nodup_cons, List.mem_cons, not_or] at h
  refine .tail (by grind) (.tail (by grind) (.tail (by grind) (.head ?_)))
  intro q hq e
  exact h.2.2.2.1 (List.mem_map.mpr ⟨q, hq, e⟩)

theorem shuf1 {α : Type} {a b c d : α} {A r : List α} : ∀ p ∈ A ++ (a :: b :: c :: d :: r), p ∈ a :: b :: c :: d :: (A ++ r) := by
  intro p hp; simp only [List.mem_append, List.mem_cons] at hp ⊢; grind
theorem shuf2 {α : Type} {a b c d : α} {A r : List α} : ∀ p ∈ a :: b :: c :: d :: (A ++ r), p ∈ A ++ (a :: b :: c :: d :: r) := by
  intro p hp; simp only [List.mem_append, List.mem_cons] at hp ⊢; grind
theorem shufP {α : Type} {a b c d : α} {A r : List α} : (A ++ (a :: b :: c :: d :: r)).Perm (a :: b :: c :: d :: (A ++ r)) := by
  have := (List.perm_append_comm_assoc A [a, b, c, d] r); simpa using this

theorem popC (w : World) (p : Program) (loose : List Str) (mean : ExcName → Option Value) (mg mb : Str → Option Value) : ∀ (r : List Lv) (l : Lv) (k : Nat) (i : Int) (ti : Tok) (rest : List (Addr × Obj)),
    Sep (led w (l :: r) ++ rest) → popOk (l :: r) k → (i = k ∨ i = k - (l.xs.length : Int)) →
    Tri w p loose mean mg mb 184 [.ref l.v, .int i ti] (led w (l :: r) ++ rest) (10 + 10 * r.length) (50 + 50 * r.length) (fun v news' => l.xs[k]? = some v ∧ news' = led w (popL (l :: r) k) ++ rest) := by
  intro r
  induction r with
  | nil =>
    intro l k i ti rest hsep hok hi
    obtain ⟨v, dv, d, it, off, t1, t2, t3, t4, to, xs, nd, ys, ni⟩ := l
    unfold Tri
    simp only [led, parOf, offOf, List.cons_append, List.nil_append, popL, popOk] at *
    obtain ⟨hk, hlen, hz, -, -⟩ := hok
    k_fill
    intro dp un gd cn cs a ccd cl outer A₀ base h₀ L m s Q E B F X N T hck hd9 hu9 hret
    refine wpAny_call ?_
    k_dflt (walk_at "enter own")
    k_steps
    rename News _ _ _ _ => N9
    rename Fr _ _ _ (fun _ => _) => F9
    refine popAt (k := k) F9 N9 (Sep.upd2 hsep) (by rw [hlen]; exact hi) (List.getElem?_eq_getElem (by omega)) (by omega) ?_
    intro h' F' N'
    clear F9 N9
    k_steps
    rename News _ _ _ _ => N9
    rename Fr _ _ _ (fun _ => _) => F9
    refine popAt (k := k) F9 N9 (Sep.upd1 (hsep.of_map rfl)) hi (List.getElem?_eq_getElem hk) (by omega) ?_
    intro h' F' N'
    clear F9 N9
    k_steps
    rename News _ _ _ _ => N9
    rename Fr _ _ _ _ => F9
    exact hret _ _ _ _ ⟨List.getElem?_eq_getElem hk, rfl⟩ F9 N9
  | cons l2 r2 ih =>
    intro l k i ti rest hsep hok hi
    obtain ⟨v, dv, d, it, off, t1, t2, t3, t4, to, xs, nd, ys, ni⟩ := l
    have hok2 := hok
    simp only [popOk] at hok
    obtain ⟨hk, hlen, hz, hoff, hok'⟩ := hok
    have hmap := addr_popL w
    obtain ⟨v2, dv2, d2, it2, off2, u1, u2, u3, u4, uo, xs2, nd2, ys2, ni2⟩ := l2
    dsimp only at hi hok'
    obtain ⟨hk2, hlen2, hz2, hoff2, hok3⟩ := hok'
    have hpos2 : 0 < xs2.length := by omega
    have hpos : 0 < xs.length := by omega
    have hix : ((xs.length : Int) + i).fmod (xs.length : Int) = (k : Int) := by
      rw [Int.fmod_eq_emod_of_nonneg _ (by omega)]
      rcases hi with rfl | rfl
      · rw [Int.add_emod_left, Int.emod_eq_of_lt] <;> omega
      · rw [show (xs.length : Int) + ((k : Int) - xs.length) = k by omega, Int.emod_eq_of_lt] <;> omega
    have H := fun t => ih ⟨v2, dv2, d2, it2, off2, u1, u2, u3, u4, uo, xs2, nd2, ys2, ni2⟩ (k + off.toNat) (((xs.length : Int) + i).fmod (xs.length : Int) + off) t
      ((v, instObj 266 dv) :: (dv, vDict w d it (.ref v2) (.int off to) t1 t2 t3 t4) :: (d, listOf xs.toArray nd) :: (it, listOf ys.toArray ni) :: rest) (hsep.perm shufP) hok2.2.2.2.2 (.inl (by rw [hix]; omega))
    have h1 := parOf_popL r2 (k + off.toNat + off2.toNat)
    have h2 := offOf_popL ⟨v2, dv2, d2, it2, off2, u1, u2, u3, u4, uo, xs2, nd2, ys2, ni2⟩ r2 (k + off.toNat + off2.toNat)
    unfold Tri
    simp only [led, List.cons_append, List.nil_append, parOf_cons, offOf_cons] at hsep ⊢
    generalize hp2 : parOf r2 = pr2 at hsep ⊢
    generalize ho2 : offOf { v := v2, dv := dv2, d := d2, it := it2, off := off2, t1 := u1, t2 := u2, t3 := u3, t4 := u4, to := uo, xs := xs2, nd := nd2, ys := ys2, ni := ni2 } r2 = of2 at hsep ⊢
    generalize htl : led w r2 ++ rest = tl at hsep ⊢
    k_fill
    intro dp un gd cn cs a ccd cl outer A₀ base h₀ L m s Q E B F X N T hck hd9 hu9 hret
    refine wpAny_call ?_
    k_dflt (walk_at "enter own")
    k_with_none
    k_with "call ref" => (
      (with_reducible show wpAny _ _ (call (Value.ref 184) _) _ _ _); rename News _ _ _ _ => N9; subst htl hp2 ho2
      k_dflt (refine tri_use (H _) (by k_asm) (by k_asm) (by k_asm) (newsSub N9 shuf1) (by k_asm) rfl (by simp only [List.length_cons] at *; dsimp only [ktrTop] at *; omega) (by simp only [List.length_cons] at *; dsimp only [ktrTop] at *; omega) ?_)
      intro r9 n9 h9 tk9 hp9 F9 N9'
      obtain ⟨-, rfl⟩ := hp9
      replace N9 := newsSub N9' shuf2
      clear N9'
      (try dsimp only)
      (try k_fold))
    k_steps
    all_goals k_with_none
    rotate_left
    · exfalso; omega
    rename News _ _ _ _ => N9
    rename Fr _ _ _ (fun _ => _) => F9
    have hs1 : Sep ((v, instObj 266 dv) :: (dv, vDict w d it (.ref v2) (.int off to) t1 t2 t3 t4) :: (d, listOf xs.toArray nd) :: (it, listOf ys.toArray ni) :: (led w (popL (⟨v2, dv2, d2, it2, off2, u1, u2, u3, u4, uo, xs2, nd2, ys2, ni2⟩ :: r2) (k + off.toNat)) ++ rest)) := by
      refine hsep.of_map ?_
      simp only [List.map_cons, List.map_append, addr_popL, led, List.cons_append]
    refine popAt (k := k) F9 N9 (Sep.upd2 hs1) (by rw [hlen]; exact hi) (List.getElem?_eq_getElem (by omega)) (by omega) ?_
    intro h' F' N'
    clear F9 N9
    k_steps
    rename News _ _ _ _ => N9
    rename Fr _ _ _ (fun _ => _) => F9
    refine popAt (k := k) F9 N9 (Sep.upd1 (hs1.of_map rfl)) hi (List.getElem?_eq_getElem hk) (by omega) ?_
    intro h' F' N'
    clear F9 N9
    k_steps
    rename News _ _ _ _ => N9
    rename Fr _ _ _ _ => F9
    exact hret _ _ _ _ ⟨List.getElem?_eq_getElem hk, rfl⟩ F9 N9
end Mine
namespace Mine
local macro_rules | `(tactic| k_room) => `(tactic| ((try simp only [depth_under_make, depth_under_kw, depth_in1, depth_deeper, depth_caller] at *); (try dsimp only [ktrTop] at *); (simp only [recursionLimit] at *); omega))
local macro_rules | `(tactic| walk_at "enter own") => `(tactic| (refine' code_def ?k1 ?k2 ?k3 ?k4 ?k5 ?kA ?kF ?kK ?k6 ?k7 ?k8 ?k9 ?kB ?_ ?c2 ?c3 ?c4 ?c5; (case kA => exact rfl); (case kF => exact rfl); (case kK => assumption); (case k1 => k_asm); (case k2 => k_asm); (case k3 => k_asm); (case k4 => k_asm); (case k5 => k_asm); (case k6 => k_is); (case k7 => k_is); (case k8 => ktr_room); (case k9 => first | exact BindsTo.of_eq rfl | exact binds_K (by k_in) rfl (by k_is) rfl rfl rfl); (case c5 => decide); (case kB => exact locs rfl); (case c2 => exact rfl); (case c3 => exact rfl); (case c4 => exact rfl); k_whole; intro g' L' h' FG' F' N' B' X' T'; (try dsimp only); (try k_fold)))
local macro_rules | `(tactic| walk_at "call builtin:len") => `(tactic| (k_here; (with_reducible show wpAny _ _ (call (Value.builtin "len") [Value.ref _]) _ _ _); k_dflt (refine' lenAny ?k1 ?k2 ?k4 ?_; (case k1 => k_asm); (case k2 => k_mem); (case k4 => omega); k_whole)))

abbrev tupOf (a b : Value) : Obj := { cls := .type "tuple", data := .seq #[a, b] }
noncomputable def insL : List Lv → Nat → Value → List Addr → List Lv
  | l :: r, k, x, a :: as => { l with xs := insAtL l.xs k x, nd := l.nd + 1, ys := insAtL l.ys k (.ref a), ni := l.ni + 1 } :: insL r (k + l.off.toNat) x as
  | C, _, _, _ => C
noncomputable def insOk : List Lv → Nat → Prop
  | [], _ => True
  | l :: r, k => k ≤ l.xs.length ∧ 0 < l.xs.length ∧ l.ys.length = l.xs.length ∧ l.xs.length ≤ 100 ∧ 0 ≤ l.off ∧ insOk r (k + l.off.toNat)
theorem parOf_insL (r : List Lv) (k : Nat) (x : Value) (as : List Addr) : parOf (insL r k x as) = parOf r := by cases r <;> cases as <;> rfl
theorem addr_insL (w : World) : ∀ (C : List Lv) (k : Nat) (x : Value) (as : List Addr), (led w (insL C k x as)).map Prod.fst = (led w C).map Prod.fst
  | [], _, _, _ => by simp [insL]
  | l :: r, k, x, [] => by simp [insL]
  | l :: r, k, x, a :: as => by simp [insL, led, addr_insL w r]
def tupsOf (a b : Value) (as : List Addr) : List (Addr × Obj) := as.map fun x => (x, tupOf a b)

theorem sepNew {a : Addr} {o : Obj} {e1 e2 e3 e4 : Addr × Obj} {tl : List (Addr × Obj)} (h : Sep (e1 :: e2 :: e3 :: e4 :: tl)) (l : e1.1 < a ∧ e2.1 < a ∧ e3.1 < a ∧ e4.1 < a ∧ AllLt a tl) : Sep (e1 :: e2 :: e3 :: e4 :: (a, o) :: tl) := by
  have hx : Sep ((a, o) :: e1 :: e2 :: e3 :: e4 :: tl) := by
    unfold Sep at h ⊢
    rw [List.map_cons, List.nodup_cons]
    refine ⟨fun hm => ?_, h⟩
    obtain ⟨q, hq, e⟩ := List.mem_map.mp hm
    obtain ⟨l1, l2, l3, l4, l5⟩ := l
    have := ktn_ltOf l5
    simp only [List.mem_cons] at hq
    rcases hq with rfl | rfl | rfl | rfl | hq
    · exact absurd e (Nat.ne_of_lt l1)
    · exact absurd e (Nat.ne_of_lt l2)
    · exact absurd e (Nat.ne_of_lt l3)
    · exact absurd e (Nat.ne_of_lt l4)
    · exact absurd e (Nat.ne_of_lt (this q hq))
  refine hx.perm ?_
  exact (List.perm_middle (l₁ := [e1, e2, e3, e4]))
theorem shuf3 {α : Type} {t a b c d : α} {r : List α} : ∀ p ∈ a :: b :: c :: d :: t :: r, p ∈ t :: a :: b :: c :: d :: r := by
  intro p hp; simp only [List.mem_cons] at hp ⊢; grind

theorem shuf5P {α : Type} {a b c d e : α} {A r : List α} : (A ++ (a :: b :: c :: d :: e :: r)).Perm (a :: b :: c :: d :: e :: (A ++ r)) := by
  have := (List.perm_append_comm_assoc A [a, b, c, d, e] r); simpa using this
theorem shuf5 {α : Type} {a b c d e : α} {A r : List α} : ∀ p ∈ A ++ (a :: b :: c :: d :: e :: r), p ∈ a :: b :: c :: d :: e :: (A ++ r) := fun _ hp => shuf5P.mem_iff.mp hp
theorem shufQ {α : Type} {a b c d e : α} {B T r : List α} : (a :: b :: c :: d :: (B ++ (e :: (T ++ r)))).Perm (B ++ (T ++ (a :: b :: c :: d :: e :: r))) := by
  have h1 : (B ++ (e :: (T ++ r))).Perm (e :: (B ++ (T ++ r))) := List.perm_middle
  have h2 : ((B ++ T) ++ (a :: b :: c :: d :: e :: r)).Perm (a :: b :: c :: d :: e :: ((B ++ T) ++ r)) := shuf5P
  rw [List.append_assoc] at h2
  refine List.Perm.trans ?_ h2.symm
  rw [List.append_assoc]
  exact ((((h1.cons d).cons c).cons b).cons a)
theorem insC (w : World) (p : Program) (loose : List Str) (mean : ExcName → Option Value) (mg mb : Str → Option Value) (sx : Str) (st : Tok) (spot x : Value) : ∀ (r : List Lv) (l : Lv) (k : Nat) (ti : Tok) (rest : List (Addr × Obj)),
    Sep (led w (l :: r) ++ rest) → insOk (l :: r) k →
    Tri w p loose mean mg mb 176 [.ref l.v, .int k ti, x, .str sx st, spot] (led w (l :: r) ++ rest) (10 + 10 * r.length) (50 + 50 * r.length)
      (fun _ news' => ∃ as : List Addr, as.length = r.length + 1 ∧ news' = led w (insL (l :: r) k x as) ++ (tupsOf (.str sx st) spot as ++ rest) ∧ Sep news') := by
  intro r
  induction r with
  | nil =>
    intro l k ti rest hsep hok
    obtain ⟨v, dv, d, it, off, t1, t2, t3, t4, to, xs, nd, ys, ni⟩ := l
    unfold Tri
    simp only [led, parOf, offOf, List.cons_append, List.nil_append, insOk] at *
    obtain ⟨hk, hpos, hlen, hz, -, -⟩ := hok
    k_fill
    intro dp un gd cn cs a ccd cl outer A₀ base h₀ L m s Q E B F X N T hck hd9 hu9 hret
    refine wpAny_call ?_
    k_dflt (walk_at "enter own")
    k_steps
    rename News _ _ _ _ => N9
    rename Fr _ _ _ (fun _ => _) => F9
    refine insAt (k := k) F9 N9 (Sep.upd1 hsep) rfl hk (by omega) ?_
    intro h' F' N'
    clear F9 N9
    k_steps
    rename News _ _ _ _ => N9
    rename Fr _ _ _ (fun _ => _) => F9
    rename _ < _ ∧ _ < _ ∧ _ ∧ _ ∧ AllLt _ _ => hl
    have hs2 := sepNew (hsep.of_map (l' := (v, instObj 266 dv) :: (dv, vDict w d it .none .none t1 t2 t3 t4) :: (d, listOf (insAtL xs k x).toArray (nd + 1)) :: (it, listOf ys.toArray ni) :: rest) rfl) (o := tupOf (.str sx st) spot) hl
    refine insAt (k := k) F9 (newsSub N9 shuf3) (Sep.upd2 hs2) rfl (by omega) (by omega) ?_
    intro h' F' N'
    clear F9 N9
    k_steps
    rename News _ _ _ _ => N9
    rename Fr _ _ _ _ => F9
    exact hret _ _ _ _ ⟨[_], rfl, rfl, hs2.of_map rfl⟩ F9 N9
  | cons l2 r2 ih =>
    intro l k ti rest hsep hok
    obtain ⟨v, dv, d, it, off, t1, t2, t3, t4, to, xs, nd, ys, ni⟩ := l
    have hok2 := hok
    simp only [insOk] at hok
    obtain ⟨hk, hpos, hlen, hz, hoff, hok'⟩ := hok
    obtain ⟨v2, dv2, d2, it2, off2, u1, u2, u3, u4, uo, xs2, nd2, ys2, ni2⟩ := l2
    dsimp only at hok'
    obtain ⟨hk2, hpos2, hlen2, hz2, hoff2, hok3⟩ := hok'
    have hin := insAtL_length xs k x hk
    have hix : ((insAtL xs k x).length + (k : Int)).fmod ((insAtL xs k x).length : Int) = (k : Int) := by
      rw [Int.fmod_eq_emod_of_nonneg _ (by omega), Int.add_emod_left, Int.emod_eq_of_lt] <;> omega
    unfold Tri
    simp only [led, List.cons_append, parOf_cons, offOf_cons] at hsep ⊢
    generalize hp2 : parOf r2 = pr2 at hsep ⊢
    generalize ho2 : offOf { v := v2, dv := dv2, d := d2, it := it2, off := off2, t1 := u1, t2 := u2, t3 := u3, t4 := u4, to := uo, xs := xs2, nd := nd2, ys := ys2, ni := ni2 } r2 = of2 at hsep ⊢
    generalize htl : led w r2 ++ rest = tl at hsep ⊢
    k_fill
    intro dp un gd cn cs a ccd cl outer A₀ base h₀ L m s Q E B F X N T hck hd9 hu9 hret
    refine wpAny_call ?_
    k_dflt (walk_at "enter own")
    k_steps
    rename News _ _ _ _ => N9
    rename Fr _ _ _ (fun _ => _) => F9
    refine insAt (k := k) F9 N9 (Sep.upd1 hsep) rfl hk (by omega) ?_
    intro h' F' N'
    clear F9 N9
    k_steps
    rename News _ _ _ _ => N9
    rename Fr _ _ _ (fun _ => _) => F9
    rename _ < _ ∧ _ < _ ∧ _ ∧ _ ∧ _ ∧ _ => hl
    rename_i D9 _
    have hs2 : Sep ((v, instObj 266 dv) :: (dv, vDict w d it (.ref v2) (.int off to) t1 t2 t3 t4) :: (d, listOf (insAtL xs k x).toArray (nd + 1)) :: (it, listOf ys.toArray ni) :: (D9, tupOf (.str sx st) spot) :: (v2, instObj 266 dv2) :: (dv2, vDict w d2 it2 pr2 of2 u1 u2 u3 u4) :: (d2, listOf xs2.toArray nd2) :: (it2, listOf ys2.toArray ni2) :: tl) :=
      sepNew (hsep.of_map rfl) hl
    have H := fun t => ih ⟨v2, dv2, d2, it2, off2, u1, u2, u3, u4, uo, xs2, nd2, ys2, ni2⟩ (k + off.toNat) t
      ((v, instObj 266 dv) :: (dv, vDict w d it (.ref v2) (.int off to) t1 t2 t3 t4) :: (d, listOf (insAtL xs k x).toArray (nd + 1)) :: (it, listOf (insAtL ys k (.ref D9)).toArray (ni + 1)) :: (D9, tupOf (.str sx st) spot) :: rest) 
      (by
        subst htl hp2 ho2
        refine Sep.perm (hs2.of_map (l' := (v, instObj 266 dv) :: (dv, vDict w d it (.ref v2) (.int off to) t1 t2 t3 t4) :: (d, listOf (insAtL xs k x).toArray (nd + 1)) :: (it, listOf (insAtL ys k (.ref D9)).toArray (ni + 1)) :: (D9, tupOf (.str sx st) spot) :: (led w (⟨v2, dv2, d2, it2, off2, u1, u2, u3, u4, uo, xs2, nd2, ys2, ni2⟩ :: r2) ++ rest)) rfl) ?_
        exact shuf5P) hok2.2.2.2.2.2
    refine insAt (k := k) F9 (newsSub N9 shuf3) (Sep.upd2 hs2) rfl (by omega) (by omega) ?_
    intro h' F' N'
    clear F9 N9
    k_with_none
    k_with "call ref" => (
      (with_reducible show wpAny _ _ (call (Value.ref 176) _) _ _ _); rename News _ _ _ _ => N9; subst htl hp2 ho2
      rw [hix, show (k : Int) + off = ((k + off.toNat : Nat) : Int) by omega]
      k_dflt (refine tri_use (H _) (by k_asm) (by k_asm) (by k_asm) (newsSub N9 shuf5) (by k_asm) rfl (by simp only [List.length_cons] at *; dsimp only [ktrTop] at *; omega) (by simp only [List.length_cons] at *; dsimp only [ktrTop] at *; omega) ?_)
      intro r9 n9 h9 tk9 hp9 F9 N9'
      clear N9
      (try dsimp only)
      (try k_fold))
    k_steps
    all_goals k_with_none
    rotate_left
    · exfalso; omega
    rename ∃ _ : List Addr, _ => hp9
    obtain ⟨as, hla, rfl, hs9⟩ := hp9
    rename News _ _ _ _ => N9
    rename Fr _ _ _ _ => F9
    have he : (led w (insL (⟨v, dv, d, it, off, t1, t2, t3, t4, to, xs, nd, ys, ni⟩ :: ⟨v2, dv2, d2, it2, off2, u1, u2, u3, u4, uo, xs2, nd2, ys2, ni2⟩ :: r2) k x (D9 :: as)) ++ (tupsOf (.str sx st) spot (D9 :: as) ++ rest)).Perm
      (led w (insL (⟨v2, dv2, d2, it2, off2, u1, u2, u3, u4, uo, xs2, nd2, ys2, ni2⟩ :: r2) (k + off.toNat) x as) ++ (tupsOf (.str sx st) spot as ++ ((v, instObj 266 dv) :: (dv, vDict w d it (.ref v2) (.int off to) t1 t2 t3 t4) :: (d, listOf (insAtL xs k x).toArray (nd + 1)) :: (it, listOf (insAtL ys k (.ref D9)).toArray (ni + 1)) :: (D9, tupOf (.str sx st) spot) :: rest))) := by
      cases as with
      | nil => simp at hla
      | cons a0 as => exact shufQ
    exact hret _ _ _ _ ⟨D9 :: as, by simp [hla], rfl, hs9.perm he⟩ F9 (newsSub N9 fun p hp => he.mem_iff.mp hp)
end Mine
namespace Mine
local macro_rules | `(tactic| k_room) => `(tactic| ((try simp only [depth_under_make, depth_under_kw, depth_in1, depth_deeper, depth_caller] at *); (try dsimp only [ktrTop] at *); (simp only [recursionLimit] at *); omega))
local macro_rules | `(tactic| walk_at "enter own") => `(tactic| (refine' code_def ?k1 ?k2 ?k3 ?k4 ?k5 ?kA ?kF ?kK ?k6 ?k7 ?k8 ?k9 ?kB ?_ ?c2 ?c3 ?c4 ?c5; (case kA => exact rfl); (case kF => exact rfl); (case kK => assumption); (case k1 => k_asm); (case k2 => k_asm); (case k3 => k_asm); (case k4 => k_asm); (case k5 => k_asm); (case k6 => k_is); (case k7 => k_is); (case k8 => ktr_room); (case k9 => first | exact BindsTo.of_eq rfl | exact binds_K (by k_in) rfl (by k_is) rfl rfl rfl); (case c5 => decide); (case kB => exact locs rfl); (case c2 => exact rfl); (case c3 => exact rfl); (case c4 => exact rfl); k_whole; intro g' L' h' FG' F' N' B' X' T'; (try dsimp only); (try k_fold)))
local macro_rules | `(tactic| walk_at "call builtin:len") => `(tactic| (k_here; (with_reducible show wpAny _ _ (call (Value.builtin "len") [Value.ref _]) _ _ _); k_dflt (refine' lenAny ?k1 ?k2 ?k4 ?_; (case k1 => k_asm); (case k2 => k_mem); (case k4 => omega); k_whole)))

local macro_rules | `(tactic| walk_at "subscriptTail Name Slice ref ref") => `(tactic| (k_here; (with_reducible show wpAny _ _ (subscriptTail _ (PySem.Expr.Slice _ _ none _) (Value.ref _) (Value.ref _)) _ _ _); k_dflt (refine' sliceAny ?F ?N ?l ?p ?q ?_ ?s ?t ?z; (case F => k_asm); (case N => k_asm); (case l => k_mem); (case p => kmk_part); (case q => kmk_part); (case s => with_unfolding_all rfl); (case t => kmk_pure); (case z => omega)); intro D' h' F' N' l1; (try k_lt l1); (try k_sweep)))
local macro_rules | `(tactic| walk_at "truthy ref") => `(tactic| (k_here; k_dflt (refine' truthyPos ?N ?l ?p ?z ?_; (case N => k_asm); (case l => k_mem); (case p => omega); (case z => omega))))
local macro_rules | `(tactic| walk_at "call type:list") => `(tactic| (k_here; (with_reducible show wpAny _ _ (call (Value.type _) [Value.ref _]) _ _ _); k_dflt (refine' copyAny ?k1 ?k2 ?k3 ?z ?_; (case k1 => k_asm); (case k2 => k_asm); (case k3 => k_mem); (case z => omega); k_whole); intro D' c' h' F' N' l1; (try k_lt l1); (try k_sweep)))
def partPost (w : World) (r : List Lv) (l : Lv) (rest : List (Addr × Obj)) (a : Nat) (xs ys : List Value) (v : Value) (news' : List (Addr × Obj)) : Prop :=
  ∃ c : Lv, v = .ref c.v ∧ c.off = a ∧ c.xs = xs ∧ c.ys = ys ∧ news' = led w (c :: l :: r) ++ rest ∧ Sep news'
theorem sep4 {x d D I : Addr} {o1 o2 o3 o4 : Obj} {old : List (Addr × Obj)} (h : Sep old) (h1 : d < x) (h2 : AllLt d old) (h3 : AllLt D old) (h4 : AllLt I old) (h5 : D ≠ I) (h6 : D ≠ x) (h7 : D ≠ d) (h8 : I ≠ x) (h9 : I ≠ d) : Sep ((x, o1) :: (d, o2) :: (D, o3) :: (I, o4) :: old) := by
  have up : ∀ p ∈ old, p.1 < x := fun p hp => Nat.lt_trans (ktn_ltOf h2 p hp) h1
  have f : ∀ z : Addr, (∀ p ∈ old, p.1 < z) → z ∉ old.map Prod.fst := fun z hz hm => by
    obtain ⟨q, hq, e⟩ := List.mem_map.mp hm
    exact absurd e (Nat.ne_of_lt (hz q hq))
  unfold Sep at h ⊢
  simp only [List.map_cons, List.nodup_cons, List.mem_cons, not_or]
  exact ⟨⟨fun e => absurd e.symm (Nat.ne_of_lt h1), Ne.symm h6, Ne.symm h8, f _ up⟩, ⟨Ne.symm h7, Ne.symm h9, f _ (ktn_ltOf h2)⟩, ⟨h5, f _ (ktn_ltOf h3)⟩, f _ (ktn_ltOf h4), h⟩
theorem partEnd {w : World} {h₀ h9 : Heap} {L : Addr} {m : Str → Option Value} {s : Shared} {Q : Value → Shared → Prop} {r : List Lv} {l : Lv} {rest news9 : List (Addr × Obj)} {a : Nat} {ta : Tok} {xs ys : List Value} {tk9 : Nat} {x d D I : Addr} {u1 u2 u3 u4 : Tok} {c1 c2 : Nat}
    (hret : ∀ (v : Value) news' h' tk', partPost w r l rest a xs ys v news' → Fr h₀ L h' m → News h₀ L h' news' → Q v { s with heap := h', toks := tk' })
    (F9 : Fr h₀ L h9 m) (N9 : News h₀ L h9 news9)
    (hx : (x, instObj 266 d) ∈ news9) (hd : (d, vDict w D I (.ref l.v) (.int a ta) u1 u2 u3 u4) ∈ news9) (hD : (D, listOf xs.toArray c1) ∈ news9) (hI : (I, listOf ys.toArray c2) ∈ news9)
    (hold : ∀ p ∈ led w (l :: r) ++ rest, p ∈ news9) (hs : Sep (led w (l :: r) ++ rest))
    (h1 : d < x) (h2 : AllLt d (led w (l :: r) ++ rest)) (h3 : AllLt D (led w (l :: r) ++ rest)) (h4 : AllLt I (led w (l :: r) ++ rest)) (h5 : D ≠ I ∧ D ≠ x ∧ D ≠ d ∧ I ≠ x ∧ I ≠ d) :
    Q (.ref x) { s with heap := h9, toks := tk9 } := by
  obtain ⟨h5, h6, h7, h8, h9'⟩ := h5
  refine hret _ (led w ((⟨x, d, D, I, a, u1, u2, u3, u4, ta, xs, c1, ys, c2⟩ : Lv) :: l :: r) ++ rest) _ _ ⟨⟨x, d, D, I, a, u1, u2, u3, u4, ta, xs, c1, ys, c2⟩, rfl, rfl, rfl, rfl, rfl, ?_⟩ F9 (newsSub N9 ?_)
  · exact sep4 hs h1 h2 h3 h4 h5 h6 h7 h8 h9'
  · intro p hp
    rw [led, List.cons_append, List.cons_append, List.cons_append, List.cons_append] at hp
    rcases List.mem_cons.mp hp with rfl | hp
    · exact hx
    rcases List.mem_cons.mp hp with rfl | hp
    · exact hd
    rcases List.mem_cons.mp hp with rfl | hp
    · exact hD
    rcases List.mem_cons.mp hp with rfl | hp
    · exact hI
    exact hold p hp
theorem partC (w : World) (p : Program) (loose : List Str) (mean : ExcName → Option Value) (mg mb : Str → Option Value) (r : List Lv) (l : Lv) (a b : Nat) (ta tb : Tok) (rest : List (Addr × Obj))
    (hsep : Sep (led w (l :: r) ++ rest)) (hab : a < b) (hb : b ≤ l.xs.length) (hlen : l.ys.length = l.xs.length) (hz : l.xs.length ≤ 100) :
    Tri w p loose mean mg mb 125 [.ref l.v, .int a ta, .int b tb] (led w (l :: r) ++ rest) 20 100
      (partPost w r l rest a ((l.xs.drop a).take (b - a)) ((l.ys.drop a).take (b - a))) := by
  obtain ⟨v, dv, d, it, off, t1, t2, t3, t4, to, xs, nd, ys, ni⟩ := l
  unfold Tri
  dsimp only at hb hlen hz
  simp only [led, List.cons_append] at hsep ⊢
  generalize hp2 : parOf r = pr2 at hsep ⊢
  generalize ho2 : offOf _ r = of2 at hsep ⊢
  generalize htl : led w r ++ rest = tl at hsep ⊢
  have hP1 := pickRun xs a b (by omega) (by omega)
  have hP2 := pickRun ys a b (by omega) (by omega)
  have hL1 : (kms_pick xs (some (a : Int)) (some (b : Int))).length = b - a := by rw [hP1, List.length_take, List.length_drop]; omega
  have hL2 : (kms_pick ys (some (a : Int)) (some (b : Int))).length = b - a := by rw [hP2, List.length_take, List.length_drop]; omega
  k_fill
  intro dp un gd cn cs aa ccd cl outer A₀ base h₀ L m s Q E B F X N T hck hd9 hu9 hret
  refine wpAny_call ?_
  k_dflt (walk_at "enter own")
  k_steps
  subst htl hp2 ho2
  rename News h₀ _ _ _ => N9
  rename Fr h₀ _ _ _ => F9
  rw [← hP1, ← hP2] at hret
  refine' partEnd hret F9 N9 ?hx ?hd ?hD ?hI ?hold hsep ?h1 ?h2 ?h3 ?h4 ?h5
  case hx => k_mem
  case hd => k_mem
  case hD => k_mem
  case hI => k_mem
  case h1 => exact ltN (by omega)
  case h2 => exact ⟨ltN (by dsimp only; omega), ltN (by dsimp only; omega), ltN (by dsimp only; omega), ltN (by dsimp only; omega), by tbn_find⟩
  case h3 => exact ⟨ltN (by dsimp only; omega), ltN (by dsimp only; omega), ltN (by dsimp only; omega), ltN (by dsimp only; omega), by tbn_find⟩
  case h4 => exact ⟨ltN (by dsimp only; omega), ltN (by dsimp only; omega), ltN (by dsimp only; omega), ltN (by dsimp only; omega), by tbn_find⟩
  case h5 => exact ⟨neN (by omega), neN (by omega), neN (by omega), neN (by omega), neN (by omega)⟩
  case hold =>
    intro p hp
    simp only [led, List.cons_append, List.mem_cons] at hp ⊢
    grind
end Mine
namespace Mine
noncomputable def krun {α : Type} (c : Nat → Nat → Bool) : KasT α → α
  | .ret a => a
  | .ask i j k => krun c (k (c i j))
theorem krun_bind {α β : Type} (c : Nat → Nat → Bool) (g : α → KasT β) : ∀ t : KasT α, krun c (t.bind g) = krun c (g (krun c t))
  | .ret _ => rfl
  | .ask i j k => krun_bind c g (k (c i j))

section
variable (f : Nat → Nat) (n : Nat)
def R (i j : Nat) : Prop := f i < f j ∨ (f i = f j ∧ i < j)
def cc (i j : Nat) : Bool := decide (f i < f j)
abbrev av (p : Array Nat) (i : Nat) : Nat := p.getD i 0
structure Inv (p : Array Nat) (m : Nat) : Prop where
  size : p.size = n
  perm : p.Perm (List.range n).toArray
  mle : m ≤ n
  low : ∀ i, i < m → av p i < m
  fix : ∀ i, m ≤ i → i < n → av p i = i
def Asc (p : Array Nat) (m : Nat) : Prop := ∀ i j, i < j → j < m → R f (av p i) (av p j)
def Desc (p : Array Nat) (m : Nat) : Prop := ∀ i j, i < j → j < m → R f (av p j) (av p i)
end
variable {f : Nat → Nat} {n : Nat}
theorem av_rev {p : Array Nat} {i j : Nat} (hj : j ≤ p.size) (hij : i ≤ j) (k : Nat) (hk : k < p.size) : av (kas_rev p i j) k = if i ≤ k ∧ k < j then av p (i + j - 1 - k) else av p k := by
  have h := getElem?_mirror (xs := p) (i := i) (j := j) hj ((j - i) / 2) (by omega) k
  have e : ∀ (q : Array Nat) (k : Nat), av q k = (q[k]?).getD 0 := by intro q k; simp [av, Array.getD_eq_getD_getElem?]
  unfold kas_rev
  rw [e, h]
  by_cases h1 : (i ≤ k ∧ k < i + (j - i) / 2) ∨ (j - (j - i) / 2 ≤ k ∧ k < j)
  · rw [if_pos h1, if_pos (by omega), e]
  · rw [if_neg h1]
    by_cases h2 : i ≤ k ∧ k < j
    · rw [if_pos h2, e]
      rw [show i + j - 1 - k = k by omega]
    · rw [if_neg h2, e]
theorem av_bub {p : Array Nat} {src l : Nat} (hs : src < p.size) (hl : l ≤ src) (k : Nat) : av (bubble p src (src - l)) k = if k = l then av p src else if l < k ∧ k ≤ src then av p (k - 1) else av p k := by
  have h := getElem?_bubble hs (src - l) (by omega) k
  have e : ∀ (q : Array Nat) (k : Nat), av q k = (q[k]?).getD 0 := by intro q k; simp [av, Array.getD_eq_getD_getElem?]
  rw [e (bubble p src (src - l)) k, h, show src - (src - l) = l by omega, e p src, e p (k - 1), e p k]
  split
  · rfl
  · split <;> rfl
theorem Inv.rev {p : Array Nat} {m i : Nat} (h : Inv n p m) (hi : i ≤ m) : Inv n (kas_rev p i m) m := by
  have hm := h.mle
  refine ⟨by rw [kas_rev_size, h.size], (mirror_perm _ _ _ _).trans h.perm, h.mle, fun k hk => ?_, fun k hk hkn => ?_⟩
  · rw [av_rev (by rw [h.size]; exact hm) hi k (by rw [h.size]; omega)]
    split
    · exact h.low _ (by omega)
    · exact h.low _ hk
  · rw [av_rev (by rw [h.size]; exact hm) hi k (by rw [h.size]; omega), if_neg (by omega)]
    exact h.fix k hk hkn
theorem Inv.up {p : Array Nat} {m : Nat} (h : Inv n p m) (hm : m < n) : Inv n p (m + 1) := by
  refine ⟨h.size, h.perm, hm, fun i hi => ?_, fun i hi hn => h.fix i (by omega) hn⟩
  by_cases e : i = m
  · subst e; rw [h.fix i (Nat.le_refl _) hm]; omega
  · exact Nat.lt_succ_of_lt (h.low i (by omega))
theorem R.trans {i j k : Nat} (a : R f i j) (b : R f j k) : R f i k := by unfold R at *; omega

theorem asc_ok {p : Array Nat} : ∀ (fuel m : Nat), 1 ≤ m → m + fuel = n → Inv n p m → Asc f p m → ∃ m', krun (cc f) (kas_asc p fuel m) = m' ∧ m ≤ m' ∧ Inv n p m' ∧ Asc f p m' ∧ (m' < n → f (av p m') < f (av p (m' - 1)))
  | 0, m, _, hn, hI, hA => ⟨m, rfl, Nat.le_refl _, hI, hA, fun h => by omega⟩
  | fuel + 1, m, h1, hn, hI, hA => by
    show ∃ m', krun (cc f) (if cc f (p.getD m 0) (p.getD (m - 1) 0) = true then KasT.ret m else kas_asc p fuel (m + 1)) = m' ∧ _
    by_cases hc : f (av p m) < f (av p (m - 1))
    · rw [if_pos (by simpa [cc] using hc)]
      exact ⟨m, rfl, Nat.le_refl _, hI, hA, fun _ => hc⟩
    · rw [if_neg (by simpa [cc] using hc)]
      have hm : av p m = m := hI.fix m (Nat.le_refl _) (by omega)
      have hA' : Asc f p (m + 1) := by
        intro i j hij hj
        by_cases e : j = m
        · subst e
          have hl := hI.low i hij
          by_cases e2 : i = j - 1
          · subst e2; unfold R; omega
          · have := hA i (j - 1) (by omega) (by omega)
            unfold R at *; omega
        · exact hA i j hij (by omega)
      obtain ⟨m', e, a, b⟩ := asc_ok fuel (m + 1) (by omega) (by omega) (hI.up (by omega)) hA'
      exact ⟨m', e, by omega, b⟩

structure DI (f : Nat → Nat) (n : Nat) (p : Array Nat) (m q : Nat) : Prop where
  inv : Inv n p m
  qm : q + 1 ≤ m
  desc : Desc f p (m - (q + 1))
  cross : ∀ i j, i < m - (q + 1) → m - (q + 1) ≤ j → j < m → f (av p j) < f (av p i)
  same : ∀ i j, m - (q + 1) ≤ i → i < j → j < m → f (av p i) = f (av p j) ∧ av p i < av p j
theorem DI.rev {p : Array Nat} {m q : Nat} (h : DI f n p m q) : Inv n (kas_rev p (m - (q + 1)) m) m ∧ Desc f (kas_rev p (m - (q + 1)) m) m := by
  have hI := h.inv.rev (i := m - (q + 1)) (by omega)
  refine ⟨hI, fun i j hij hj => ?_⟩
  have hs := h.inv.size
  have hm := h.inv.mle
  rw [av_rev (by omega) (by omega) j (by omega), av_rev (by omega) (by omega) i (by omega)]
  by_cases e1 : m - (q + 1) ≤ i
  · rw [if_pos (by omega), if_pos (by omega)]
    have := h.same (m - (q + 1) + m - 1 - j) (m - (q + 1) + m - 1 - i) (by omega) (by omega) (by omega)
    exact .inr ⟨this.1, this.2⟩
  · rw [if_neg (by omega : ¬ (m - (q + 1) ≤ i ∧ i < m))]
    by_cases e2 : m - (q + 1) ≤ j
    · rw [if_pos (by omega)]
      exact .inl (h.cross i _ (by omega) (by omega) (by omega))
    · rw [if_neg (by omega)]
      exact h.desc i j hij (by omega)
theorem DI.flat {p : Array Nat} {m : Nat} (h : DI f n p m 0) : Desc f p m := by
  intro i j hij hj
  by_cases e : j = m - 1
  · subst e
    exact .inl (h.cross i _ (by omega) (by omega) (by omega))
  · exact h.desc i j hij (by omega)
theorem DI.next {p : Array Nat} {m : Nat} (hI : Inv n p m) (hD : Desc f p m) (h1 : 1 ≤ m) (hm : m < n) (hlt : f (av p m) < f (av p (m - 1))) : DI f n p (m + 1) 0 := by
  refine ⟨hI.up hm, by omega, fun i j hij hj => hD i j hij (by omega), fun i j hi hj hj' => ?_, fun i j hi hij hj => by omega⟩
  have : j = m := by omega
  subst this
  by_cases e : i = j - 1
  · subst e; exact hlt
  · have := hD i (j - 1) (by omega) (by omega)
    unfold R at this; omega

theorem desc_ok : ∀ (fuel : Nat) (p : Array Nat) (m q : Nat), m + fuel = n → DI f n p m q → ∃ p' m' q', krun (cc f) (kas_desc fuel p m q) = (p', m', q') ∧ m ≤ m' ∧ DI f n p' m' q'
  | 0, p, m, q, _, h => ⟨p, m, q, rfl, Nat.le_refl _, h⟩
  | fuel + 1, p, m, q, hn, h => by
    have hs := h.inv.size
    have hqm := h.qm
    show ∃ p' m' q', krun (cc f) (if cc f (p.getD m 0) (p.getD (m - 1) 0) = true then (if q > 0 then kas_desc fuel (kas_rev p (m - (q + 1)) m) (m + 1) 0 else kas_desc fuel p (m + 1) 0)
      else KasT.ask (p.getD (m - 1) 0) (p.getD m 0) fun d => if d = true then KasT.ret (p, m, q) else kas_desc fuel p (m + 1) (q + 1)) = (p', m', q') ∧ _
    by_cases hc : f (av p m) < f (av p (m - 1))
    · rw [if_pos (by simpa [cc] using hc)]
      by_cases hq : q > 0
      · rw [if_pos hq]
        obtain ⟨hI, hD⟩ := h.rev
        have hv : av (kas_rev p (m - (q + 1)) m) m = av p m := by rw [av_rev (by omega) (by omega) m (by omega), if_neg (by omega)]
        have hv2 : f (av (kas_rev p (m - (q + 1)) m) (m - 1)) = f (av p (m - 1)) := by
          rw [av_rev (by omega) (by omega) (m - 1) (by omega), if_pos (by omega)]
          have := h.same (m - (q + 1) + m - 1 - (m - 1)) (m - 1) (by omega) (by omega) (by omega)
          exact this.1
        obtain ⟨p', m', q', e, a, b⟩ := desc_ok fuel _ (m + 1) 0 (by omega) (DI.next hI hD (by omega) (by omega) (by rw [hv, hv2]; exact hc))
        exact ⟨p', m', q', e, by omega, b⟩
      · rw [if_neg hq]
        have hq0 : q = 0 := by omega
        subst hq0
        obtain ⟨p', m', q', e, a, b⟩ := desc_ok fuel p (m + 1) 0 (by omega) (DI.next h.inv h.flat (by omega) (by omega) hc)
        exact ⟨p', m', q', e, by omega, b⟩
    · rw [if_neg (by simpa [cc] using hc)]
      show ∃ p' m' q', krun (cc f) (if cc f (p.getD (m - 1) 0) (p.getD m 0) = true then KasT.ret (p, m, q) else kas_desc fuel p (m + 1) (q + 1)) = (p', m', q') ∧ _
      by_cases hd : f (av p (m - 1)) < f (av p m)
      · rw [if_pos (by simpa [cc] using hd)]
        exact ⟨p, m, q, rfl, Nat.le_refl _, h⟩
      · rw [if_neg (by simpa [cc] using hd)]
        have hm : av p m = m := h.inv.fix m (Nat.le_refl _) (by omega)
        have h' : DI f n p (m + 1) (q + 1) := by
          refine ⟨h.inv.up (by omega), by omega, ?_, fun i j hi hj hj' => ?_, fun i j hi hij hj => ?_⟩
          · rw [show m + 1 - (q + 1 + 1) = m - (q + 1) by omega]; exact h.desc
          · by_cases e : j = m
            · subst e
              have := h.cross i (j - 1) (by omega) (by omega) (by omega)
              omega
            · exact h.cross i j (by omega) (by omega) (by omega)
          · by_cases e : j = m
            · subst e
              have hl := h.inv.low i (by omega)
              by_cases e2 : i = j - 1
              · subst e2; omega
              · have := h.same i (j - 1) (by omega) (by omega) (by omega)
                omega
            · exact h.same i j (by omega) hij (by omega)
        obtain ⟨p', m', q', e, a, b⟩ := desc_ok fuel p (m + 1) (q + 1) (by omega) h'
        exact ⟨p', m', q', e, by omega, b⟩

def Good (f : Nat → Nat) (n : Nat) (r : Nat × Array Nat) : Prop := 1 ≤ r.1 ∧ Inv n r.2 r.1 ∧ Asc f r.2 r.1
theorem tail_ok {p : Array Nat} {m : Nat} (h1 : 1 ≤ m) (hI : Inv n p m) (hD : Desc f p m) : Good f n (krun (cc f) (kas_tail3 m n p)) := by
  unfold kas_tail3
  rw [krun_bind]
  have hI' := hI.rev (i := 0) (Nat.zero_le _)
  have hs := hI.size
  have hm := hI.mle
  have hA : Asc f (kas_rev p 0 m) m := by
    intro i j hij hj
    rw [av_rev (by omega) (by omega) j (by omega), av_rev (by omega) (by omega) i (by omega), if_pos (by omega), if_pos (by omega)]
    exact hD _ _ (by omega) (by omega)
  obtain ⟨m', e, a, b, c, _⟩ := asc_ok (n - m) m h1 (by omega) hI' hA
  rw [e]
  exact ⟨by show 1 ≤ m'; omega, b, c⟩
theorem descPart_ok {p : Array Nat} {m : Nat} (h1 : 1 ≤ m) (hm : m < n) (hI : Inv n p m) (hD : Desc f p m) (hlt : f (av p m) < f (av p (m - 1))) : Good f n (krun (cc f) (kas_descPart m n p)) := by
  unfold kas_descPart
  rw [krun_bind]
  obtain ⟨p', m', q', e, a, h⟩ := desc_ok (n - (m + 1)) p (m + 1) 0 (by omega) (DI.next hI hD h1 hm hlt)
  rw [e]
  dsimp only
  by_cases hq : q' > 0
  · rw [if_pos hq]
    obtain ⟨hI', hD'⟩ := h.rev
    exact tail_ok (by omega) hI' hD'
  · rw [if_neg hq]
    have hq0 : q' = 0 := by omega
    subst hq0
    exact tail_ok (by omega) h.inv h.flat
theorem inv0 (n : Nat) (hn : 1 ≤ n) : Inv n (List.range n).toArray 1 := by
  have e : ∀ i, i < n → av (List.range n).toArray i = i := by
    intro i hi
    simp [av, Array.getD, hi]
  exact ⟨by simp, Array.Perm.refl _, hn, fun i hi => by rw [e i (by omega)]; exact hi, fun i _ hi => e i hi⟩
theorem count_ok (hn : 1 ≤ n) : Good f n (krun (cc f) (kas_count n (List.range n).toArray)) := by
  unfold kas_count
  rw [krun_bind]
  obtain ⟨m, e, a, hI, hA, hlt⟩ := asc_ok (f := f) (n - 1) 1 (Nat.le_refl _) (by omega) (inv0 n hn) (fun i j _ _ => by omega)
  rw [e]
  have hs := hI.size
  have hm := hI.mle
  by_cases e1 : m = n
  · subst e1
    simp only [beq_self_eq_true, if_true]
    exact ⟨a, hI, hA⟩
  · rw [if_neg (by simpa using e1)]
    by_cases e2 : m > 1
    · rw [if_pos e2]
      show Good f n (krun (cc f) (if cc f ((List.range n).toArray.getD 0 0) ((List.range n).toArray.getD (m - 1) 0) = true then KasT.ret (m, (List.range n).toArray) else kas_descPart m n (kas_rev (List.range n).toArray 0 m)))
      by_cases hc : f (av (List.range n).toArray 0) < f (av (List.range n).toArray (m - 1))
      · rw [if_pos (by simpa [cc] using hc)]
        exact ⟨a, hI, hA⟩
      · rw [if_neg (by simpa [cc] using hc)]
        have heq : ∀ i, i < m → f (av (List.range n).toArray i) = f (av (List.range n).toArray 0) := by
          intro i hi
          have h0 : i = 0 ∨ R f (av (List.range n).toArray 0) (av (List.range n).toArray i) := by
            by_cases z : i = 0
            · exact .inl z
            · exact .inr (hA 0 i (by omega) hi)
          have h9 : i = m - 1 ∨ R f (av (List.range n).toArray i) (av (List.range n).toArray (m - 1)) := by
            by_cases z : i = m - 1
            · exact .inl z
            · exact .inr (hA i (m - 1) (by omega) (by omega))
          unfold R at h0 h9
          rcases h0 with rfl | h0
          · rfl
          · rcases h9 with rfl | h9 <;> omega
        have hlt' := hlt (by omega)
        refine descPart_ok (by omega) (by omega) (hI.rev (Nat.zero_le _)) (fun i j hij hj => ?_) ?_
        · rw [av_rev (by omega) (by omega) j (by omega), av_rev (by omega) (by omega) i (by omega), if_pos (by omega), if_pos (by omega)]
          exact hA _ _ (by omega) (by omega)
        · rw [av_rev (by omega) (by omega) m (by omega), av_rev (by omega) (by omega) (m - 1) (by omega), if_neg (by omega), if_pos (by omega)]
          rw [heq (m - 1) (by omega)] at hlt'
          rw [show 0 + m - 1 - (m - 1) = 0 by omega]
          exact hlt'
    · rw [if_neg e2]
      have : m = 1 := by omega
      subst this
      exact descPart_ok (Nat.le_refl _) (by omega) hI (fun i j _ _ => by omega) (hlt (by omega))

theorem place_ok {p : Array Nat} {k : Nat} (hA : Asc f p k) : ∀ (fuel l r : Nat), r - l ≤ fuel → l ≤ r → r ≤ k → (∀ i, i < l → f (av p i) ≤ f (av p k)) → (∀ i, r ≤ i → i < k → f (av p k) < f (av p i)) →
    ∃ l', krun (cc f) (kas_place p k fuel l r) = l' ∧ l' ≤ k ∧ (∀ i, i < l' → f (av p i) ≤ f (av p k)) ∧ (∀ i, l' ≤ i → i < k → f (av p k) < f (av p i))
  | 0, l, r, h0, hlr, hrk, hl, hr => ⟨l, rfl, by omega, hl, fun i h1 h2 => hr i (by omega) h2⟩
  | fuel + 1, l, r, h0, hlr, hrk, hl, hr => by
    unfold kas_place
    by_cases hge : l ≥ r
    · rw [if_pos hge]
      exact ⟨l, rfl, by omega, hl, fun i h1 h2 => hr i (by omega) h2⟩
    · rw [if_neg hge]
      show ∃ l', krun (cc f) (if cc f (p.getD k 0) (p.getD ((l + r) / 2) 0) = true then kas_place p k fuel l ((l + r) / 2) else kas_place p k fuel ((l + r) / 2 + 1) r) = l' ∧ _
      by_cases hc : f (av p k) < f (av p ((l + r) / 2))
      · rw [if_pos (by simpa [cc] using hc)]
        refine place_ok hA fuel l ((l + r) / 2) (by omega) (by omega) (by omega) hl fun i h1 h2 => ?_
        by_cases e : i = (l + r) / 2
        · subst e; exact hc
        · have := hA ((l + r) / 2) i (by omega) h2
          unfold R at this; omega
      · rw [if_neg (by simpa [cc] using hc)]
        refine place_ok hA fuel ((l + r) / 2 + 1) r (by omega) (by omega) hrk (fun i hi => ?_) hr
        by_cases e : i = (l + r) / 2
        · subst e; omega
        · have := hA i ((l + r) / 2) (by omega) (by omega)
          unfold R at this; omega
theorem bin_ok : ∀ (fuel : Nat) (p : Array Nat) (k : Nat), k + fuel = n → Inv n p k → Asc f p k → ∃ p', krun (cc f) (kas_bin fuel p k) = p' ∧ Inv n p' n ∧ Asc f p' n
  | 0, p, k, h, hI, hA => by
    obtain rfl : k = n := by omega
    exact ⟨p, rfl, hI, hA⟩
  | fuel + 1, p, k, h, hI, hA => by
    show ∃ p', krun (cc f) ((kas_place p k k 0 k).bind fun l => kas_bin fuel (bubble p k (k - l)) (k + 1)) = p' ∧ _
    rw [krun_bind]
    obtain ⟨l, e, hlk, hlo, hhi⟩ := place_ok (f := f) hA k 0 k (by omega) (Nat.zero_le _) (Nat.le_refl _) (fun i hi => by omega) (fun i h1 h2 => by omega)
    rw [e]
    have hs := hI.size
    have hk : av p k = k := hI.fix k (Nat.le_refl _) (by omega)
    have hb := fun i => av_bub (p := p) (src := k) (l := l) (by omega) hlk i
    refine bin_ok fuel _ (k + 1) (by omega) ⟨by rw [bubble_size, hs], (bubble_perm _ _ _).trans hI.perm, by omega, fun i hi => ?_, fun i hi hin => ?_⟩ (fun i j hij hj => ?_)
    · rw [hb]
      split
      · omega
      · split
        · have := hI.low (i - 1) (by omega); omega
        · have := hI.low i (by omega); omega
    · rw [hb, if_neg (by omega), if_neg (by omega)]
      exact hI.fix i (by omega) hin
    · rw [hb, hb]
      by_cases e1 : i = l
      · rw [if_pos e1, if_neg (by omega), if_pos (by omega)]
        exact .inl (hhi (j - 1) (by omega) (by omega))
      · rw [if_neg e1]
        by_cases e2 : j = l
        · rw [if_pos e2, if_neg (by omega)]
          have h1 := hlo i (by omega)
          have h2 := hI.low i (by omega)
          unfold R; omega
        · rw [if_neg e2]
          by_cases e3 : l < i ∧ i ≤ k
          · rw [if_pos e3, if_pos (by omega)]
            exact hA _ _ (by omega) (by omega)
          · rw [if_neg e3]
            by_cases e4 : l < j ∧ j ≤ k
            · rw [if_pos e4]
              exact hA _ _ (by omega) (by omega)
            · rw [if_neg e4]
              exact hA _ _ hij (by omega)
theorem sort_ok (hn : 1 ≤ n) : ∃ p, krun (cc f) (kas_sort n) = p ∧ p.size = n ∧ p.toList.Perm (List.range n) ∧ p.toList.Pairwise (R f) := by
  have fin : ∀ p, Inv n p n → Asc f p n → p.size = n ∧ p.toList.Perm (List.range n) ∧ p.toList.Pairwise (R f) := by
    intro p hI hA
    refine ⟨hI.size, by simpa using Array.perm_iff_toList_perm.mp hI.perm, ?_⟩
    rw [List.pairwise_iff_getElem]
    intro i j hi hj hij
    have := hA i j hij (by rw [← hI.size]; simpa using hj)
    have hi' : i < p.size := by simpa using hi
    have hj' : j < p.size := by simpa using hj
    simpa [av, Array.getD, hi', hj'] using this
  unfold kas_sort
  rw [krun_bind]
  obtain ⟨h1, hI, hA⟩ := count_ok (f := f) hn
  generalize krun (cc f) (kas_count n (List.range n).toArray) = r at *
  obtain ⟨m, p⟩ := r
  dsimp only at *
  have hm := hI.mle
  by_cases hlt : m < n
  · rw [if_pos hlt]
    obtain ⟨p', e, a, b⟩ := bin_ok (f := f) (n := n) (n - max m 1) p (max m 1) (by omega) (by rw [show max m 1 = m by omega]; exact hI) (by rw [show max m 1 = m by omega]; exact hA)
    exact ⟨p', e, fin p' a b⟩
  · rw [if_neg hlt]
    obtain rfl : m = n := by omega
    exact ⟨p, rfl, fin p hI hA⟩
end Mine
namespace Mine
variable {α : Type} {key : α → Nat}
structure SS (key : α → Nat) (seg L : List α) : Prop where
  perm : L.Perm seg
  asc : L.Pairwise (fun a b => key a ≤ key b)
  alike : ∀ c, L.filter (fun a => key a == c) = seg.filter (fun a => key a == c)
theorem ss_uniq_aux (key : α → Nat) : ∀ (L1 L2 : List α), L1.Pairwise (fun a b => key a ≤ key b) → L2.Pairwise (fun a b => key a ≤ key b) → (∀ c, L1.filter (fun a => key a == c) = L2.filter (fun a => key a == c)) → L1 = L2
  | [], [], _, _, _ => rfl
  | [], y :: r, _, _, h => by have := h (key y); simp at this
  | x :: r, [], _, _, h => by have := h (key x); simp at this
  | x :: r1, y :: r2, h1, h2, h => by
    have hx := h (key x)
    have hy := h (key y)
    have a1 := List.pairwise_cons.mp h1
    have a2 := List.pairwise_cons.mp h2
    have m1 : x ∈ (y :: r2).filter (fun a => key a == key x) := by rw [← hx]; simp
    have m2 : y ∈ (x :: r1).filter (fun a => key a == key y) := by rw [hy]; simp
    have e1 := (List.mem_filter.mp m1).1
    have e2 := (List.mem_filter.mp m2).1
    have k1 : key y ≤ key x := by
      rcases List.mem_cons.mp e1 with rfl | q
      · exact Nat.le_refl _
      · exact a2.1 _ q
    have k2 : key x ≤ key y := by
      rcases List.mem_cons.mp e2 with rfl | q
      · exact Nat.le_refl _
      · exact a1.1 _ q
    have ke : key x = key y := by omega
    have hxy : x = y := by
      rw [List.filter_cons, List.filter_cons, if_pos (by simp), if_pos (by simp [ke])] at hx
      exact (List.cons.inj hx).1
    subst hxy
    rw [ss_uniq_aux key r1 r2 a1.2 a2.2 fun c => by
      have := h c
      rw [List.filter_cons, List.filter_cons] at this
      split at this
      · exact (List.cons.inj this).2
      · exact this]
theorem SS.uniq {seg L1 L2 : List α} (a : SS key seg L1) (b : SS key seg L2) : L1 = L2 := ss_uniq_aux key L1 L2 a.asc b.asc fun c => (a.alike c).trans (b.alike c).symm
theorem SS.trans2 {A B SA SB L : List α} (a : SS key A SA) (b : SS key B SB) (h : SS key (SA ++ SB) L) : SS key (A ++ B) L :=
  ⟨h.perm.trans (a.perm.append b.perm), h.asc, fun c => by rw [h.alike c, List.filter_append, List.filter_append, a.alike c, b.alike c]⟩
theorem SS.small {L : List α} (h : L.length ≤ 1) : SS key L L := by
  refine ⟨List.Perm.refl _, ?_, fun _ => rfl⟩
  match L, h with
  | [], _ => exact .nil
  | [a], _ => exact List.pairwise_singleton _ _
theorem SS.refl {L : List α} (h : L.Pairwise (fun a b => key a ≤ key b)) : SS key L L := ⟨List.Perm.refl _, h, fun _ => rfl⟩
theorem SS.ins {S L1 L2 : List α} {z : α} (h : SS key S (L1 ++ L2)) (h1 : ∀ a ∈ L1, key a ≤ key z) (h2 : ∀ a ∈ L2, key z < key a) : SS key (S ++ [z]) (L1 ++ z :: L2) := by
  have ha := List.pairwise_append.mp h.asc
  refine ⟨?_, ?_, fun c => ?_⟩
  · refine List.Perm.trans List.perm_middle ?_
    refine List.Perm.trans (h.perm.cons z) ?_
    exact (List.perm_append_singleton z S).symm
  · rw [List.pairwise_append]
    refine ⟨ha.1, List.pairwise_cons.mpr ⟨fun a ha' => Nat.le_of_lt (h2 a ha'), ha.2.1⟩, fun a ha' b hb => ?_⟩
    rcases List.mem_cons.mp hb with rfl | hb
    · exact h1 a ha'
    · exact ha.2.2 a ha' b hb
  · have e := h.alike c
    rw [List.filter_append] at e
    rw [List.filter_append, List.filter_append, ← e, List.filter_cons]
    by_cases hc : key z = c
    · subst hc
      have e0 : L2.filter (fun a => key a == key z) = [] := by
        rw [List.filter_eq_nil_iff]
        intro a ha' hk
        have := h2 a ha'
        simp at hk; omega
      rw [e0]; simp
    · have hz : (key z == c) = false := by simpa using hc
      simp [hz]
theorem pairwise_lt_filter_range (n : Nat) (q : Nat → Bool) (p : List Nat) (hp : p.Perm (List.range n)) (hs : (p.filter q).Pairwise (· < ·)) : p.filter q = (List.range n).filter q := by
  have h2 : ((List.range n).filter q).Pairwise (· < ·) := List.Pairwise.filter _ List.pairwise_lt_range
  exact List.Perm.eq_of_pairwise (le := (· < ·)) (fun a b _ _ h1 h2 => absurd h1 (Nat.lt_asymm h2)) hs h2 (hp.filter q)
theorem SS.of_idx [Inhabited α] (seg : List α) (f : Nat → Nat) (hf : ∀ i (h : i < seg.length), f i = key seg[i]) (p : List Nat) (hp : p.Perm (List.range seg.length)) (hs : p.Pairwise (R f)) : SS key seg (p.map fun i => seg.getD i default) := by
  have hr : (List.range seg.length).map (fun i => seg.getD i default) = seg := by
    apply List.ext_getElem (by simp)
    intro i h1 h2
    simp [h2]
  have hk : ∀ i ∈ p, f i = key (seg.getD i default) := by
    intro i hi
    have : i < seg.length := by simpa using hp.mem_iff.mp hi
    rw [hf i this]; simp [this]
  refine ⟨?_, ?_, fun c => ?_⟩
  · have := hp.map (fun i => seg.getD i default)
    rwa [hr] at this
  · rw [List.pairwise_map]
    refine List.Pairwise.imp_of_mem (fun {a b} ha hb h => ?_) hs
    rw [← hk a ha, ← hk b hb]
    unfold R at h; omega
  · rw [List.filter_map]
    have e1 : p.filter ((fun a => key a == c) ∘ fun i => seg.getD i default) = p.filter (fun i => f i == c) := by
      apply List.filter_congr
      intro i hi
      simp only [Function.comp]
      rw [hk i hi]
    have e2 : (List.range seg.length).filter ((fun a => key a == c) ∘ fun i => seg.getD i default) = (List.range seg.length).filter (fun i => f i == c) := by
      apply List.filter_congr
      intro i hi
      simp only [Function.comp]
      have : i < seg.length := by simpa using hi
      rw [hf i this]; simp [this]
    rw [e1, pairwise_lt_filter_range seg.length _ p hp, ← e2, ← List.filter_map, hr]
    have h3 := List.Pairwise.filter (fun i => f i == c) hs
    refine List.Pairwise.imp_of_mem (fun {a b} ha hb h => ?_) h3
    have q1 := (List.mem_filter.mp ha).2
    have q2 := (List.mem_filter.mp hb).2
    simp at q1 q2
    unfold R at h; omega
end Mine
namespace Mine
noncomputable def KIn {α : Type} (n : Nat) (P : α → Prop) : KasT α → Prop
  | .ret a => P a
  | .ask i j k => i < n ∧ j < n ∧ ∀ b, KIn n P (k b)
theorem KIn.bind {α β : Type} {n : Nat} {P : α → Prop} {P2 : β → Prop} {g : α → KasT β} : ∀ {t : KasT α}, KIn n P t → (∀ a, P a → KIn n P2 (g a)) → KIn n P2 (t.bind g)
  | .ret a, h, hg => hg a h
  | .ask _ _ k, h, hg => ⟨h.1, h.2.1, fun b => KIn.bind (t := k b) (h.2.2 b) hg⟩
theorem KIn.mono {α : Type} {n : Nat} {P P2 : α → Prop} (hp : ∀ a, P a → P2 a) : ∀ {t : KasT α}, KIn n P t → KIn n P2 t
  | .ret a, h => hp a h
  | .ask _ _ k, h => ⟨h.1, h.2.1, fun b => KIn.mono hp (t := k b) (h.2.2 b)⟩
def Bd (n : Nat) (p : Array Nat) : Prop := ∀ x ∈ p.toList, x < n
theorem Bd.at {n : Nat} {p : Array Nat} (h : Bd n p) (hn : 0 < n) (i : Nat) : p.getD i 0 < n := by
  by_cases hi : i < p.size
  · have : p.getD i 0 = p[i] := by simp [Array.getD, hi]
    rw [this]; exact h _ (by simp)
  · have : p.getD i 0 = 0 := by simp [Array.getD, hi]
    rw [this]; exact hn
theorem Bd.perm {n : Nat} {p p' : Array Nat} (h : Bd n p) (hp : p'.Perm p) : Bd n p' := fun x hx => h x ((Array.perm_iff_toList_perm.mp hp).mem_iff.mp hx)
theorem Bd.rev {n : Nat} {p : Array Nat} (h : Bd n p) (i j : Nat) : Bd n (kas_rev p i j) := h.perm (mirror_perm _ _ _ _)
theorem Bd.bub {n : Nat} {p : Array Nat} (h : Bd n p) (i j : Nat) : Bd n (bubble p i j) := h.perm (bubble_perm _ _ _)
section
variable {n : Nat} (hn : 0 < n)
include hn
theorem in_asc {p : Array Nat} (h : Bd n p) : ∀ (f m : Nat), KIn n (fun _ => True) (kas_asc p f m)
  | 0, _ => trivial
  | f + 1, m => ⟨h.at hn _, h.at hn _, fun b => by cases b; exact in_asc h f (m + 1); exact trivial⟩
theorem in_desc : ∀ (f : Nat) (p : Array Nat) (m q : Nat), Bd n p → KIn n (fun r => Bd n r.1) (kas_desc f p m q)
  | 0, _, _, _, h => h
  | f + 1, p, m, q, h => ⟨h.at hn _, h.at hn _, fun b => by
      cases b with
      | true =>
        simp only [if_true]
        split
        · exact in_desc f _ _ _ (h.rev _ _)
        · exact in_desc f _ _ _ h
      | false =>
        simp only [Bool.false_eq_true, if_false]
        exact ⟨h.at hn _, h.at hn _, fun d => by cases d; exact in_desc f _ _ _ h; exact h⟩⟩
theorem in_tail3 {p : Array Nat} (h : Bd n p) (m k : Nat) : KIn n (fun r => Bd n r.2) (kas_tail3 m k p) := (in_asc hn (h.rev _ _) _ _).bind fun _ _ => h.rev _ _
theorem in_descPart {p : Array Nat} (h : Bd n p) (m k : Nat) : KIn n (fun r => Bd n r.2) (kas_descPart m k p) := by
  refine (in_desc hn _ _ _ _ h).bind fun r hr => ?_
  split
  · exact in_tail3 hn (Bd.rev hr _ _) _ _
  · exact in_tail3 hn hr _ _
theorem in_count {p : Array Nat} (h : Bd n p) (k : Nat) : KIn n (fun r => Bd n r.2) (kas_count k p) := by
  refine (in_asc hn h _ _).bind fun m _ => ?_
  split
  · exact h
  · split
    · refine ⟨h.at hn _, h.at hn _, fun b => ?_⟩
      cases b
      · exact in_descPart hn (h.rev _ _) _ _
      · exact h
    · exact in_descPart hn h _ _
theorem in_place {p : Array Nat} (h : Bd n p) (k : Nat) : ∀ (f l r : Nat), KIn n (fun _ => True) (kas_place p k f l r)
  | 0, _, _ => trivial
  | f + 1, l, r => by
    unfold kas_place
    split
    · trivial
    · refine ⟨h.at hn _, h.at hn _, fun b => ?_⟩
      cases b
      · exact in_place h k f _ _
      · exact in_place h k f _ _
theorem in_bin : ∀ (f : Nat) (p : Array Nat) (k : Nat), Bd n p → KIn n (fun _ => True) (kas_bin f p k)
  | 0, _, _, _ => trivial
  | f + 1, p, k, h => (in_place hn h k _ _ _).bind fun l _ => in_bin f _ _ (h.bub _ _)
theorem in_sort : KIn n (fun _ => True) (kas_sort n) := by
  have h : Bd n (List.range n).toArray := fun x hx => by simpa using hx
  refine (in_count hn h n).bind fun r hr => ?_
  split
  · exact in_bin hn _ _ _ hr
  · trivial
end
theorem kasWp_run {α : Type} {n : Nat} {cmp : Nat → Nat → (Bool → Shared → Prop) → Shared → Prop} {c : Nat → Nat → Bool} (hc : ∀ i j C s, i < n → j < n → C (c i j) s → cmp i j C s) {G : α → Shared → Prop} {P : α → Prop} :
    ∀ (t : KasT α) (s : Shared), KIn n P t → G (krun c t) s → t.kasWp cmp G s
  | .ret _, _, _, h => h
  | .ask i j k, s, hk, h => hc i j _ s hk.1 hk.2.1 (kasWp_run hc (k (c i j)) s (hk.2.2 _) h)

inductive All2 {α β : Type} (P : α → β → Prop) : List α → List β → Prop where
  | nil : All2 P [] []
  | cons {a : α} {b : β} {l : List α} {k : List β} : P a b → All2 P l k → All2 P (a :: l) (b :: k)
theorem All2.len {α β : Type} {P : α → β → Prop} {l : List α} {k : List β} (h : All2 P l k) : l.length = k.length := by
  induction h with
  | nil => rfl
  | cons _ _ ih => simp [ih]
theorem All2.get {α β : Type} {P : α → β → Prop} {l : List α} {k : List β} (h : All2 P l k) : ∀ (i : Nat) (hi : i < l.length) (hj : i < k.length), P l[i] k[i] := by
  induction h with
  | nil => intro i hi; simp at hi
  | cons a b ih =>
    intro i hi hj
    cases i with
    | zero => exact a
    | succ i => exact ih i (by simpa using hi) (by simpa using hj)
theorem All2.mono {α β : Type} {P P2 : α → β → Prop} (hp : ∀ a b, P a b → P2 a b) {l : List α} {k : List β} (h : All2 P l k) : All2 P2 l k := by
  induction h with
  | nil => exact .nil
  | cons a _ ih => exact .cons (hp _ _ a) ih
theorem All2.app {α β : Type} {P : α → β → Prop} {l l2 : List α} {k k2 : List β} (h : All2 P l k) (h2 : All2 P l2 k2) : All2 P (l ++ l2) (k ++ k2) := by
  induction h with
  | nil => exact h2
  | cons a _ ih => exact .cons a ih
theorem All2.take {α β : Type} {P : α → β → Prop} {l : List α} {k : List β} (h : All2 P l k) (n : Nat) : All2 P (l.take n) (k.take n) := by
  induction h generalizing n with
  | nil => simp; exact .nil
  | cons a _ ih =>
    cases n with
    | zero => exact .nil
    | succ n => exact .cons a (ih n)
theorem All2.drop {α β : Type} {P : α → β → Prop} {l : List α} {k : List β} (h : All2 P l k) (n : Nat) : All2 P (l.drop n) (k.drop n) := by
  induction h generalizing n with
  | nil => simp; exact .nil
  | cons a b ih =>
    cases n with
    | zero => exact .cons a b
    | succ n => exact ih n
/-- the words of a list: one letter each, by its number -/
def Word (v : Value) (c : Nat) : Prop := ∃ t, v = Value.str ⟨#[c]⟩ t
abbrev Words (vs : List Value) (cs : List Nat) : Prop := All2 Word vs cs
theorem str_lt1 (a b : Nat) : decide ((Str.mk #[a]).cps.toList < (Str.mk #[b]).cps.toList) = decide (a < b) := by
  congr 1
  simp only [eq_iff_iff]
  constructor
  · intro h
    have h' : List.Lex (· < ·) [a] [b] := h
    cases h' with
    | rel h => exact h
    | cons h => cases h
  · intro h
    exact List.Lex.rel h
theorem sortedStr {w : World} {A : Around} {E : Value → Shared → Prop} {s : Shared} {h₀ : Heap} {L l : Addr} {m : Str → Option Value} {news : List (Addr × Obj)} {vs : List Value} {cs : List Nat} {n : Nat} {Q : Value → Shared → Prop}
    (F : Fr h₀ L s.heap m) (N : News h₀ L s.heap news) (hm : (l, listOf vs.toArray n) ∈ news) (hW : Words vs cs) (h2 : 2 ≤ vs.length) (h64 : vs.length < 64)
    (h : ∀ D c h' (p : List Nat), Fr h₀ L h' m → News h₀ L h' ((D, listOf (p.map fun i => vs.getD i Value.none).toArray c) :: news) → (∀ q ∈ news, q.1 < D) → p.Perm (List.range cs.length) → p.Pairwise (R fun i => cs.getD i 0) → Q (.ref D) { s with heap := h' }) :
    wpAny (model PySem.Challenge.rw_ft0008_01.row.prog w) A (call (.builtin "sorted") [.ref l]) Q E s := by
  have hlen := hW.len
  refine kas_sorted (T := .type "str") F N ⟨_, (N _ hm).1, rfl, n, rfl⟩ h2 h64 ?_ (by decide) fun D e1 h' F' N' hlt => ?_
  · intro hh _ _ v hv
    obtain ⟨i, hi, rfl⟩ := List.mem_iff_getElem.mp hv
    obtain ⟨t, e⟩ := hW.get i hi (by omega)
    rw [e]; exact Looks.of_pure rfl
  · obtain ⟨p, ep, hps, hperm, hR⟩ := sort_ok (f := fun i => cs.getD i 0) (n := vs.length) (by omega)
    refine kasWp_run (n := vs.length) (c := cc fun i => cs.getD i 0) (P := fun _ => True) (fun i j C s' hi hj hC => ?_) _ _ (in_sort (by omega)) ?_
    · unfold kas_ask
      obtain ⟨t, e⟩ := hW.get i hi (by omega)
      obtain ⟨u, e2⟩ := hW.get j hj (by omega)
      have g1 : vs.getD i Value.none = vs[i] := by simp [hi]
      have g2 : vs.getD j Value.none = vs[j] := by simp [hj]
      rw [g1, g2, e, e2]
      refine kas_lt_str ?_
      rw [str_lt1]
      have c1 : cs.getD i 0 = cs[i]'(by omega) := by simp [show i < cs.length by omega]
      have c2 : cs.getD j 0 = cs[j]'(by omega) := by simp [show j < cs.length by omega]
      have hd : decide (cs[i]'(by omega) < cs[j]'(by omega)) = cc (fun i => cs.getD i 0) i j := by unfold cc; simp only [c1, c2]
      rw [hd]
      exact hC
    · rw [ep]
      refine KasFin.intro F' N' (.head fun q hq => Nat.ne_of_lt (hlt q hq)) fun h2 c F2 N2 => ?_
      exact h D c h2 p.toList F2 N2 hlt (by rw [← hlen]; exact hperm) hR
end Mine
namespace Mine
/-- a word: its letter, its source's letter, its place -/
abbrev Dm := Nat × Nat × Int
def Tup (T : List (Addr × Obj)) (y : Value) (z : Dm) : Prop := ∃ a t t', y = Value.ref a ∧ (a, tupOf (.str ⟨#[z.2.1]⟩ t) (.int z.2.2 t')) ∈ T
theorem Tup.mono {T T' : List (Addr × Obj)} (h : ∀ p ∈ T, p ∈ T') {y : Value} {z : Dm} (x : Tup T y z) : Tup T' y z := by
  obtain ⟨a, t, t', e, m⟩ := x
  exact ⟨a, t, t', e, h _ m⟩
abbrev WordZ (v : Value) (z : Dm) : Prop := Word v z.1
structure Holds (T : List (Addr × Obj)) (l : Lv) (zs : List Dm) : Prop where
  xs : All2 WordZ l.xs zs
  ys : All2 (Tup T) l.ys zs
theorem Holds.mono {T T' : List (Addr × Obj)} (h : ∀ p ∈ T, p ∈ T') {l : Lv} {zs : List Dm} (x : Holds T l zs) : Holds T' l zs := ⟨x.xs, x.ys.mono fun _ _ q => q.mono h⟩
/-- each level is a window of the whole -/
noncomputable def Geo (T : List (Addr × Obj)) (Z : List Dm) : List Lv → List (Nat × Nat) → Prop
  | [l], [(b, n)] => b = 0 ∧ n = Z.length ∧ 0 ≤ l.off ∧ Holds T l Z
  | l :: l2 :: r, (b, n) :: (b2, n2) :: q => Holds T l ((Z.drop b).take n) ∧ l.off = (b : Int) - (b2 : Int) ∧ b2 ≤ b ∧ b + n ≤ b2 + n2 ∧ Geo T Z (l2 :: r) ((b2, n2) :: q)
  | _, _ => False
noncomputable def lastV : List Lv → Addr
  | [] => 0
  | [l] => l.v
  | _ :: l2 :: r => lastV (l2 :: r)
def stat (l : Lv) : Addr × Addr × Addr × Addr × Int × Tok × Tok × Tok × Tok × Tok := (l.v, l.dv, l.d, l.it, l.off, l.t1, l.t2, l.t3, l.t4, l.to)
def Same (C C' : List Lv) : Prop := C'.map stat = C.map stat
def Bnd (Z : List Dm) : Prop := Z.length ≤ 50 ∧ ∀ z ∈ Z, z.1 < 128 ∧ z.2.1 < 128
def keyZ (z : Dm) : Nat := z.1
/-- what an ordered part leaves -/
def loPost (w : World) (C : List Lv) (T rest : List (Addr × Obj)) (Z : List Dm) (q : List (Nat × Nat)) (b n : Nat) (v : Value) (news' : List (Addr × Obj)) : Prop :=
  v = .bool true ∧ ∃ (C' : List Lv) (T' : List (Addr × Obj)) (S : List Dm), news' = led w C' ++ (T' ++ rest) ∧ Sep news' ∧ Same C C' ∧ (∀ p ∈ T, p ∈ T') ∧
    SS keyZ ((Z.drop b).take n) S ∧ Geo T' (Z.take b ++ S ++ Z.drop (b + n)) C' ((b, n) :: q)
end Mine
namespace Mine
theorem led_cons (w : World) (l : Lv) (r : List Lv) : led w (l :: r) = (l.v, instObj 266 l.dv) :: (l.dv, vDict w l.d l.it (parOf r) (offOf l r) l.t1 l.t2 l.t3 l.t4) :: (l.d, listOf l.xs.toArray l.nd) :: (l.it, listOf l.ys.toArray l.ni) :: led w r := rfl
theorem Sep.cons {a : Addr} {o : Obj} {news : List (Addr × Obj)} (h : Sep news) (hl : ∀ q ∈ news, q.1 < a) : Sep ((a, o) :: news) := by
  unfold Sep at h ⊢
  rw [List.map_cons, List.nodup_cons]
  refine ⟨fun hm => ?_, h⟩
  obtain ⟨q, hq, e⟩ := List.mem_map.mp hm
  exact absurd e (Nat.ne_of_lt (hl q hq))
theorem permIns {α : Type} {A B r : List α} {x : α} : (A ++ (B ++ (x :: r))).Perm (x :: (A ++ (B ++ r))) := by
  have h1 : (B ++ (x :: r)).Perm (x :: (B ++ r)) := List.perm_middle
  exact (h1.append_left A).trans List.perm_middle
theorem geo_holds {T : List (Addr × Obj)} {Z : List Dm} {l : Lv} {r : List Lv} {b n : Nat} {q : List (Nat × Nat)} (h : Geo T Z (l :: r) ((b, n) :: q)) : Holds T l ((Z.drop b).take n) ∧ b + n ≤ Z.length := by
  induction r generalizing l b n q with
  | nil =>
    cases q with
    | nil =>
      obtain ⟨rfl, rfl, _, hh⟩ := h
      exact ⟨by rw [List.drop_zero, List.take_length]; exact hh, by omega⟩
    | cons _ _ => exact h.elim
  | cons l2 r ih =>
    cases q with
    | nil => exact h.elim
    | cons x q2 =>
      obtain ⟨hh, _, h2, h3, h4⟩ := h
      have := (ih h4).2
      exact ⟨hh, by omega⟩
theorem geo_child {T : List (Addr × Obj)} {Z : List Dm} {c l : Lv} {r : List Lv} {b n a e : Nat} {q : List (Nat × Nat)} (h : Geo T Z (l :: r) ((b, n) :: q)) (ha : a ≤ e) (he : e ≤ n) (h1 : c.off = (a : Int)) (h2 : c.xs = (l.xs.drop a).take (e - a)) (h3 : c.ys = (l.ys.drop a).take (e - a)) :
    Geo T Z (c :: l :: r) ((b + a, e - a) :: (b, n) :: q) := by
  obtain ⟨hh, hb⟩ := geo_holds h
  have ez : (Z.drop (b + a)).take (e - a) = (((Z.drop b).take n).drop a).take (e - a) := by
    rw [List.drop_take, List.drop_drop, List.take_take, show min (e - a) (n - a) = e - a by omega]
  refine ⟨⟨?_, ?_⟩, by rw [h1]; omega, by omega, by omega, h⟩
  · rw [h2, ez]; exact (hh.xs.drop a).take _
  · rw [h3, ez]; exact (hh.ys.drop a).take _
theorem words_of {xs : List Value} {zs : List Dm} (h : All2 WordZ xs zs) : Words xs (zs.map (·.1)) := by
  induction h with
  | nil => exact .nil
  | cons a _ ih => exact .cons a ih
end Mine
namespace Mine
theorem same_cons {a : Lv} {r C' : List Lv} (h : Same (a :: r) C') : ∃ a' r', C' = a' :: r' ∧ stat a = stat a' ∧ Same r r' := by
  cases C' with
  | nil => simp [Same] at h
  | cons a' r' =>
    simp only [Same, List.map_cons, List.cons.injEq] at h
    exact ⟨a', r', rfl, h.1.symm, h.2⟩
theorem Same.refl (C : List Lv) : Same C C := rfl
theorem Same.trans {A B C : List Lv} (h : Same A B) (h2 : Same B C) : Same A C := by unfold Same at *; rw [h2, h]
theorem Same.cons {a a' : Lv} {r r' : List Lv} (h : stat a = stat a') (h2 : Same r r') : Same (a :: r) (a' :: r') := by unfold Same at *; rw [List.map_cons, List.map_cons, h, h2]
theorem lastV_same : ∀ {C C' : List Lv}, Same C C' → lastV C' = lastV C
  | [], [], _ => rfl
  | [], _ :: _, h => by simp [Same] at h
  | _ :: _, [], h => by simp [Same] at h
  | [a], [a'], h => by
    simp only [Same, List.map_cons, List.map_nil, List.cons.injEq, stat, Prod.mk.injEq] at h
    exact h.1.1
  | [a], _ :: _ :: _, h => by simp [Same] at h
  | _ :: _ :: _, [_], h => by simp [Same] at h
  | a :: b :: r, a' :: b' :: r', h => by
    obtain ⟨_, _, e, _, h2⟩ := same_cons h
    cases e
    show lastV (b' :: r') = lastV (b :: r)
    exact lastV_same h2
theorem Geo.mono {T T' : List (Addr × Obj)} (h : ∀ p ∈ T, p ∈ T') {Z : List Dm} : ∀ {C : List Lv} {q : List (Nat × Nat)}, Geo T Z C q → Geo T' Z C q
  | [], _, x => x.elim
  | [_], [_], x => ⟨x.1, x.2.1, x.2.2.1, x.2.2.2.mono h⟩
  | [_], [], x => x.elim
  | [_], _ :: _ :: _, x => x.elim
  | _ :: _ :: _, [], x => x.elim
  | _ :: _ :: _, [_], x => x.elim
  | _ :: l2 :: r, _ :: (_, _) :: _, x => ⟨x.1.mono h, x.2.1, x.2.2.1, x.2.2.2.1, Geo.mono h x.2.2.2.2⟩
theorem sepDrop4 {w : World} {c : Lv} {r : List Lv} {R : List (Addr × Obj)} (h : Sep (led w (c :: r) ++ R)) : Sep (led w r ++ R) := by
  rw [led_cons] at h
  unfold Sep at h ⊢
  simp only [List.cons_append, List.map_cons, List.nodup_cons] at h
  exact h.2.2.2.2
theorem geo_tail {T : List (Addr × Obj)} {Z : List Dm} {c l : Lv} {r : List Lv} {x y : Nat × Nat} {q : List (Nat × Nat)} (h : Geo T Z (c :: l :: r) (x :: y :: q)) : Geo T Z (l :: r) (y :: q) := by
  obtain ⟨b, n⟩ := x
  obtain ⟨b2, n2⟩ := y
  exact h.2.2.2.2
end Mine
namespace Mine
theorem memShuf {α : Type} {t x a b c d : α} {A B R : List α} : ∀ p ∈ (a :: b :: c :: d :: A) ++ (B ++ (x :: R)), p ∈ t :: x :: a :: b :: c :: d :: (A ++ (B ++ R)) := by
  intro p hp
  simp only [List.cons_append, List.mem_cons, List.mem_append] at hp ⊢
  rcases hp with h | h | h | h | h | h | h | h <;> simp [h]
end Mine
namespace Mine
theorem stat_eq {v dv d it : Addr} {off : Int} {t1 t2 t3 t4 to : Tok} {xs ys : List Value} {nd ni : Nat} {l' : Lv} (h : stat ⟨v, dv, d, it, off, t1, t2, t3, t4, to, xs, nd, ys, ni⟩ = stat l') : l' = ⟨v, dv, d, it, off, t1, t2, t3, t4, to, l'.xs, l'.nd, l'.ys, l'.ni⟩ := by
  obtain ⟨v', dv', d', it', off', t1', t2', t3', t4', to', xs', nd', ys', ni'⟩ := l'
  simp only [stat, Prod.mk.injEq] at h
  obtain ⟨rfl, rfl, rfl, rfl, rfl, rfl, rfl, rfl, rfl, rfl⟩ := h
  rfl
/-- what the ordering of a child leaves of the chain above it -/
theorem loPost_child {w : World} {c : Lv} {v dv d it : Addr} {off : Int} {t1 t2 t3 t4 to : Tok} {xs ys : List Value} {nd ni : Nat} {r : List Lv} {T rest : List (Addr × Obj)} {Z : List Dm} {x : Nat × Nat} {q : List (Nat × Nat)} {b n : Nat} {u : Value} {news' : List (Addr × Obj)}
    (h : loPost w (c :: ⟨v, dv, d, it, off, t1, t2, t3, t4, to, xs, nd, ys, ni⟩ :: r) T rest Z (x :: q) b n u news') :
    u = .bool true ∧ ∃ (xs' : List Value) (nd' : Nat) (ys' : List Value) (ni' : Nat) (r' : List Lv) (T' : List (Addr × Obj)) (S : List Dm), Same r r' ∧ (∀ p ∈ T, p ∈ T') ∧ SS keyZ ((Z.drop b).take n) S ∧
      Geo T' (Z.take b ++ S ++ Z.drop (b + n)) (⟨v, dv, d, it, off, t1, t2, t3, t4, to, xs', nd', ys', ni'⟩ :: r') (x :: q) ∧
      Sep (led w (⟨v, dv, d, it, off, t1, t2, t3, t4, to, xs', nd', ys', ni'⟩ :: r') ++ (T' ++ rest)) ∧
      (∀ p ∈ led w (⟨v, dv, d, it, off, t1, t2, t3, t4, to, xs', nd', ys', ni'⟩ :: r') ++ (T' ++ rest), p ∈ news') := by
  obtain ⟨hu, C', T', S, rfl, hS, hsame, hT, hss, hG⟩ := h
  obtain ⟨c', C2, rfl, _, hs2⟩ := same_cons hsame
  obtain ⟨l', r', rfl, hst, hs3⟩ := same_cons hs2
  have e := stat_eq hst
  refine ⟨hu, l'.xs, l'.nd, l'.ys, l'.ni, r', T', S, hs3, hT, hss, ?_, ?_, ?_⟩
  · rw [← e]; exact geo_tail hG
  · rw [← e]; exact sepDrop4 hS
  · rw [← e]
    intro p hp
    rw [led_cons, List.cons_append, List.cons_append, List.cons_append, List.cons_append]
    exact .tail _ (.tail _ (.tail _ (.tail _ hp)))
end Mine
namespace Mine
theorem geo_len {T : List (Addr × Obj)} {Z : List Dm} {l : Lv} {r : List Lv} {b n : Nat} {q : List (Nat × Nat)} (h : Geo T Z (l :: r) ((b, n) :: q)) : l.xs.length = n ∧ l.ys.length = n ∧ b + n ≤ Z.length := by
  obtain ⟨hh, hb⟩ := geo_holds h
  refine ⟨by rw [hh.xs.len, List.length_take, List.length_drop]; omega, by rw [hh.ys.len, List.length_take, List.length_drop]; omega, hb⟩
theorem same_len {C C' : List Lv} (h : Same C C') : C'.length = C.length := by have := congrArg List.length h; simpa using this
theorem bnd_seg {Z S : List Dm} {b n : Nat} (h : Bnd Z) (hb : b + n ≤ Z.length) (hs : SS keyZ ((Z.drop b).take n) S) : Bnd (Z.take b ++ S ++ Z.drop (b + n)) ∧ S.length = n := by
  have hl : S.length = n := by rw [hs.perm.length_eq, List.length_take, List.length_drop]; omega
  refine ⟨⟨?_, fun z hz => h.2 z ?_⟩, hl⟩
  · have := h.1
    simp only [List.length_append, List.length_take, List.length_drop, hl]; omega
  · simp only [List.mem_append] at hz
    rcases hz with (hz | hz) | hz
    · exact List.mem_of_mem_take hz
    · exact List.mem_of_mem_drop (List.mem_of_mem_take (hs.perm.mem_iff.mp hz))
    · exact List.mem_of_mem_drop hz
end Mine
namespace Mine
theorem itemAt {prog : Program} {w : World} {A : Around} {E : Value → Shared → Prop} {s : Shared} {h₀ : Heap} {L l : Addr} {news : List (Addr × Obj)} {value slice : PySem.Expr} {us : List Value} {c k : Nat} {u : Tok} {y : Value} {Q : Value → Shared → Prop}
    (N : News h₀ L s.heap news) (hm : (l, listOf us.toArray c) ∈ news) (hx : us[k]? = some y) (hz : us.length ≤ 1000) (h : Q y s)
    (hs : subscripted slice false (.ref l) (.int (k : Int) u) = operate [.ref l, .int (k : Int) u] (getItem (.ref l) (.int (k : Int) u))) :
    wpAny (model prog w) A (subscriptTail value slice (.ref l) (.int (k : Int) u)) Q E s := by
  have hl : s.heap.IsList l us.toArray := ⟨_, (N _ hm).1, rfl, c, rfl⟩
  have hk : k < us.length := by
    rcases Nat.lt_or_ge k us.length with h | h
    · exact h
    · rw [List.getElem?_eq_none h] at hx; cases hx
  exact tail_any hl.typeIs slot_list_getitem.lookup (wpAny_getItem_list hl (by omega) (by omega) (by simpa using hx) h) hs
theorem str_le1 (a b : Nat) : ((Str.mk #[a]).cps.toList ≤ (Str.mk #[b]).cps.toList) ↔ a ≤ b := by
  have h := str_lt1 b a
  have h2 : ((Str.mk #[b]).cps.toList < (Str.mk #[a]).cps.toList) ↔ b < a := by simpa using h
  constructor
  · intro x
    rcases Nat.lt_or_ge b a with y | y
    · exact absurd (h2.mpr y) x
    · exact y
  · intro x y
    have := h2.mp y
    omega
/-- a range's loop by an invariant of any make -/
theorem loopR {prog : Program} {w : World} {A : Around} {E : Value → Shared → Prop} {s : Shared} {env : Env} {h₀ : Heap} {x : Str} {body : List Stmt} {Q : Flow → Shared → Prop} {r : Addr} {a₀ b₀ : Int} {t₀ u₀ v₀ : Tok} {n : Nat} {m₀ : Str → Option Value} {news : List (Addr × Obj)} (J : Nat → (Str → Option Value) → List (Addr × Obj) → Prop)
    (hh : A.handled = none) (hr : IsRange s.heap r a₀ b₀ 1 t₀ u₀ v₀) (hsmall : Builtin.Range.small a₀ b₀ 1 = true) (hsz : Builtin.Range.rangeSize a₀ b₀ 1 = (n : Int)) (F : Fr h₀ env.locals s.heap m₀) (N : News h₀ env.locals s.heap news) (hj : J 0 m₀ news)
    (turn : ∀ i t m₁ nx h tk own, i < n → OwnOff own (nx.map (·.1)) → J i m₁ nx → Fr h₀ env.locals h (fun y => if y = x then some (.int (a₀ + (i : Int)) t) else m₁ y) → News h₀ env.locals h (nx ++ own) →
      wpAny (model prog w) A (execs body env) (InvPostG h₀ env.locals (J (i + 1)) own { s with heap := h, toks := tk } Q) E { s with heap := h, toks := tk })
    (done : ∀ m₁ nx h tk, J n m₁ nx → Fr h₀ env.locals h m₁ → News h₀ env.locals h nx → Q .next { s with heap := h, toks := tk }) :
    wpAny (model prog w) A (pyIter (.ref r)) (fun it s₂ => LoopAtV prog w A h₀ env x body Q E it s₂) E s := by
  refine wpAny_pyIter_range hr hsmall ?_
  have W : Walks prog w A s.heap.objs.size [s.heap.objs.size] [s.heap.objs.size] n (fun i v => i < n ∧ ∃ t, v = .int (a₀ + i * 1) t)
      (fun i h => IsRangeIter h s.heap.objs.size (a₀ + (i : Nat) * 1) ((n : Int) - (i : Nat)) 1) := (Walks.range hh _ a₀ 1 n).bound
  refine kdr_loop J W (fun _ h => h) (fun _ h => h) ?_ ?_ ?_ ?_ (by show IsRangeIter _ _ _ _ _; rw [hsz]; simpa using Heap.get?_push_size _ rfl) (F.push _) (fun p hp => ⟨Heap.get?_push_of_some _ (N p hp).1, (N p hp).2⟩) hj ?_ ?_
  · intro i h hi b hb
    rw [List.mem_singleton.mp hb]
    exact ⟨_, hi⟩
  · intro hm
    exact absurd F.ns.lt ((List.mem_singleton.mp hm) ▸ Nat.lt_irrefl _)
  · intro b hb
    rw [List.mem_singleton.mp hb]
    exact next_is_new F
  · intro p hp hI
    exact absurd (Heap.lt_size (N p hp).1) ((List.mem_singleton.mp hI) ▸ Nat.lt_irrefl _)
  · rintro i v m₁ nx h tk own hi ⟨_, t, rfl⟩ hoff hJ F₁ N₁
    have e1 : a₀ + (i : Int) * 1 = a₀ + (i : Int) := by omega
    rw [e1] at F₁
    exact turn i t m₁ nx h tk own hi hoff hJ F₁ N₁
  · rintro m₁ nx h tk hJ F₁ N₁
    exact done m₁ nx h tk hJ F₁ N₁
/-- each address once -/
theorem dedup {own : List (Addr × Obj)} (hf : ∀ p ∈ own, ∀ q ∈ own, p.1 = q.1 → p = q) : ∃ own2 : List (Addr × Obj), (∀ p, p ∈ own2 ↔ p ∈ own) ∧ (own2.map Prod.fst).Nodup := by
  induction own with
  | nil => exact ⟨[], fun _ => Iff.rfl, List.nodup_nil⟩
  | cons x r ih =>
    obtain ⟨o, h1, h2⟩ := ih fun p hp q hq => hf p (.tail _ hp) q (.tail _ hq)
    by_cases hx : x ∈ o
    · refine ⟨o, fun p => ⟨fun hp => .tail _ ((h1 p).mp hp), fun hp => ?_⟩, h2⟩
      rcases List.mem_cons.mp hp with rfl | hp
      · exact hx
      · exact (h1 p).mpr hp
    · refine ⟨x :: o, fun p => by rw [List.mem_cons, List.mem_cons, h1 p], ?_⟩
      rw [List.map_cons, List.nodup_cons]
      refine ⟨fun hm => ?_, h2⟩
      obtain ⟨q, hq, e⟩ := List.mem_map.mp hm
      have := hf q (.tail _ ((h1 q).mp hq)) x (.head _) e
      exact hx (this ▸ hq)
theorem news_dedup {h₀ h : Heap} {L : Addr} {nx own : List (Addr × Obj)} (N : News h₀ L h (nx ++ own)) (hoff : OwnOff own (nx.map (·.1))) (hs : Sep nx) : ∃ own2 : List (Addr × Obj), (∀ p, p ∈ own2 ↔ p ∈ own) ∧ Sep (nx ++ own2) := by
  obtain ⟨o, h1, h2⟩ := dedup (own := own) fun p hp q hq e => by
    have a := (N p (List.mem_append.mpr (.inr hp))).1
    have b := (N q (List.mem_append.mpr (.inr hq))).1
    rw [e, b] at a
    exact Prod.ext e (Option.some.inj a).symm
  refine ⟨o, h1, ?_⟩
  unfold Sep at hs ⊢
  rw [List.map_append, List.nodup_append]
  refine ⟨hs, h2, fun x hx y hy e => ?_⟩
  obtain ⟨q, hq, rfl⟩ := List.mem_map.mp hy
  exact hoff q ((h1 q).mp hq) x hx e.symm
end Mine
namespace Mine
/-- an item taken off at j, put in again at p -/
def mvZ (Z : List Dm) (j p : Nat) (z : Dm) : List Dm := (Z.eraseIdx j).take p ++ z :: (Z.eraseIdx j).drop p
theorem mvZ_get {Z : List Dm} {j p : Nat} {z : Dm} (hp : p ≤ j) (hj : j < Z.length) (i : Nat) : (mvZ Z j p z)[i]? = if i < p then Z[i]? else if i = p then some z else if i ≤ j then Z[i - 1]? else Z[i]? := by
  unfold mvZ
  have hl : (Z.eraseIdx j).length = Z.length - 1 := by rw [List.length_eraseIdx]; split <;> omega
  by_cases h1 : i < p
  · rw [if_pos h1, List.getElem?_append_left (by rw [List.length_take]; omega), List.getElem?_take, if_pos h1, List.getElem?_eraseIdx, if_pos (by omega)]
  · rw [if_neg h1, List.getElem?_append_right (by rw [List.length_take]; omega), List.length_take, hl, show min p (Z.length - 1) = p by omega]
    by_cases h2 : i = p
    · rw [if_pos h2, h2, Nat.sub_self]; rfl
    · rw [if_neg h2, show i - p = (i - p - 1) + 1 by omega, List.getElem?_cons_succ, List.getElem?_drop, List.getElem?_eraseIdx]
      by_cases h3 : i ≤ j
      · rw [if_pos (by omega), if_pos h3]; congr 1; omega
      · rw [if_neg (by omega), if_neg h3]; congr 1; omega
theorem mvZ_len {Z : List Dm} {j p : Nat} {z : Dm} (hp : p ≤ j) (hj : j < Z.length) : (mvZ Z j p z).length = Z.length := by
  unfold mvZ
  rw [List.length_append, List.length_cons, List.length_take, List.length_drop, List.length_eraseIdx]; split <;> omega
theorem mvZ_win {Z : List Dm} {b n k p : Nat} {z : Dm} (hk : k < n) (hp : p ≤ k) (hb : b + n ≤ Z.length) : ((mvZ Z (b + k) (b + p) z).drop b).take n = mvZ ((Z.drop b).take n) k p z := by
  apply List.ext_getElem?
  intro i
  rw [List.getElem?_take, List.getElem?_drop, mvZ_get (by omega) (by omega), mvZ_get hp (by rw [List.length_take, List.length_drop]; omega)]
  simp only [List.getElem?_take, List.getElem?_drop]
  by_cases h : i < n
  · rw [if_pos h]
    by_cases h1 : i < p
    · rw [if_pos (by omega), if_pos h1, if_pos h]
    · rw [if_neg (by omega), if_neg h1]
      by_cases h2 : i = p
      · rw [if_pos (by omega), if_pos h2]
      · rw [if_neg (by omega), if_neg h2]
        by_cases h3 : i ≤ k
        · rw [if_pos (by omega), if_pos h3, if_pos (by omega)]; congr 1; omega
        · rw [if_neg (by omega), if_neg h3, if_pos h]
  · rw [if_neg h, if_neg (by omega), if_neg (by omega), if_neg (by omega), if_neg h]
theorem All2.erase {α β : Type} {P : α → β → Prop} {l : List α} {k : List β} (h : All2 P l k) (i : Nat) : All2 P (l.eraseIdx i) (k.eraseIdx i) := by
  rw [List.eraseIdx_eq_take_drop_succ, List.eraseIdx_eq_take_drop_succ]
  exact (h.take i).app (h.drop (i + 1))
theorem All2.mv {P : Value → Dm → Prop} {l : List Value} {k : List Dm} (h : All2 P l k) (i p : Nat) {x : Value} {z : Dm} (hx : P x z) : All2 P (insAtL (l.eraseIdx i) p x) (mvZ k i p z) :=
  ((h.erase i).take p).app (.cons hx ((h.erase i).drop p))
theorem tups_mem {a b : Value} {as : List Addr} {x : Addr} (h : x ∈ as) : (x, tupOf a b) ∈ tupsOf a b as := List.mem_map.mpr ⟨x, h, rfl⟩
theorem geo_move {T T' : List (Addr × Obj)} (hT : ∀ p ∈ T, p ∈ T') {Z : List Dm} {z : Dm} {x : Value} (hx : WordZ x z) (t t' : Tok) : ∀ {r : List Lv} {l : Lv} {b n k p : Nat} {q : List (Nat × Nat)} {as : List Addr}, Geo T Z (l :: r) ((b, n) :: q) → k < n → p ≤ k → as.length = r.length + 1 →
    (∀ y ∈ tupsOf (.str ⟨#[z.2.1]⟩ t) (.int z.2.2 t') as, y ∈ T') →
    Geo T' (mvZ Z (b + k) (b + p) z) (insL (popL (l :: r) k) p x as) ((b, n) :: q)
  | [], l, b, n, k, p, q, as, hG, hk, hp, ha, hm => by
    obtain ⟨a, rfl⟩ : ∃ a, as = [a] := by
      match as, ha with
      | [a], _ => exact ⟨a, rfl⟩
    cases q with
    | cons _ _ => exact hG.elim
    | nil =>
      obtain ⟨rfl, rfl, ho, hH⟩ := hG
      have hy : Tup T' (.ref a) z := ⟨a, t, t', rfl, hm _ (tups_mem (.head _))⟩
      refine ⟨rfl, (mvZ_len (by omega) (by omega)).symm, ho, ?_, ?_⟩
      · have := hH.xs.mv k p hx; simpa [popL] using this
      · have := (hH.ys.mono fun _ _ q => q.mono hT).mv k p hy; simpa [popL] using this
  | l2 :: r, l, b, n, k, p, q, as, hG, hk, hp, ha, hm => by
    obtain ⟨a, as, rfl⟩ : ∃ a as', as = a :: as' := by
      cases as with
      | nil => simp at ha
      | cons a as => exact ⟨a, as, rfl⟩
    cases q with
    | nil => exact hG.elim
    | cons y q =>
      obtain ⟨b2, n2⟩ := y
      have hb := (geo_holds hG).2
      obtain ⟨hH, hoff, h2, h3, hG'⟩ := hG
      have ih := geo_move hT hx t t' (k := k + l.off.toNat) (p := p + l.off.toNat) (as := as) hG' (by omega) (by omega) (by simpa using ha) (fun y hy => hm y (by
        obtain ⟨c, hc, e⟩ := List.mem_map.mp hy
        exact List.mem_map.mpr ⟨c, .tail _ hc, e⟩))
      rw [show b2 + (k + l.off.toNat) = b + k by omega, show b2 + (p + l.off.toNat) = b + p by omega] at ih
      have hy : Tup T' (.ref a) z := ⟨a, t, t', rfl, hm _ (tups_mem (.head _))⟩
      cases as with
      | nil => simp at ha
      | cons a2 as =>
        refine ⟨⟨?_, ?_⟩, hoff, h2, h3, ih⟩
        · rw [mvZ_win hk hp hb]
          have := hH.xs.mv k p hx; exact this
        · rw [mvZ_win hk hp hb]
          have := (hH.ys.mono fun _ _ q => q.mono hT).mv k p hy; exact this
theorem geo_popOk {T : List (Addr × Obj)} {Z : List Dm} (hB : Z.length ≤ 50) : ∀ {r : List Lv} {l : Lv} {b n k : Nat} {q : List (Nat × Nat)}, Geo T Z (l :: r) ((b, n) :: q) → k < n → popOk (l :: r) k
  | [], l, b, n, k, q, hG, hk => by
    have hl := geo_len hG
    cases q with
    | cons _ _ => exact hG.elim
    | nil => exact ⟨by omega, by omega, by omega, hG.2.2.1, trivial⟩
  | l2 :: r, l, b, n, k, q, hG, hk => by
    have hl := geo_len hG
    cases q with
    | nil => exact hG.elim
    | cons y q =>
      obtain ⟨b2, n2⟩ := y
      obtain ⟨hH, hoff, h2, h3, hG'⟩ := hG
      exact ⟨by omega, by omega, by omega, by omega, geo_popOk hB hG' (by omega)⟩
theorem geo_insOk {T : List (Addr × Obj)} {Z : List Dm} (hB : Z.length ≤ 50) : ∀ {r : List Lv} {l : Lv} {b n k p : Nat} {q : List (Nat × Nat)}, Geo T Z (l :: r) ((b, n) :: q) → 2 ≤ n → k < n → p ≤ k → insOk (popL (l :: r) k) p
  | [], l, b, n, k, p, q, hG, h2n, hk, hp => by
    have hl := geo_len hG
    cases q with
    | cons _ _ => exact hG.elim
    | nil =>
      have e1 : (l.xs.eraseIdx k).length = n - 1 := by rw [List.length_eraseIdx, if_pos (by omega)]; omega
      have e2 : (l.ys.eraseIdx k).length = n - 1 := by rw [List.length_eraseIdx, if_pos (by omega)]; omega
      exact ⟨by dsimp only; omega, by dsimp only; omega, by dsimp only; omega, by dsimp only; omega, hG.2.2.1, trivial⟩
  | l2 :: r, l, b, n, k, p, q, hG, h2n, hk, hp => by
    have hl := geo_len hG
    cases q with
    | nil => exact hG.elim
    | cons y q =>
      obtain ⟨b2, n2⟩ := y
      obtain ⟨hH, hoff, h2, h3, hG'⟩ := hG
      have e1 : (l.xs.eraseIdx k).length = n - 1 := by rw [List.length_eraseIdx, if_pos (by omega)]; omega
      have e2 : (l.ys.eraseIdx k).length = n - 1 := by rw [List.length_eraseIdx, if_pos (by omega)]; omega
      exact ⟨by dsimp only; omega, by dsimp only; omega, by dsimp only; omega, by dsimp only; omega, by dsimp only; omega, geo_insOk hB hG' (by omega) (by omega) (by dsimp only; omega)⟩
theorem same_move {x : Value} : ∀ (C : List Lv) (k p : Nat) (as : List Addr), as.length = C.length → Same C (insL (popL C k) p x as)
  | [], _, _, _, _ => by cases ‹List Addr› <;> rfl
  | l :: r, k, p, [], h => by simp at h
  | l :: r, k, p, a :: as, h => Same.cons rfl (same_move r _ _ as (by simpa using h))
theorem popL_len : ∀ (C : List Lv) (k : Nat), (popL C k).length = C.length
  | [], _ => rfl
  | l :: r, k => by simp [popL, popL_len r]
end Mine
namespace Mine
def Zc (Z S2 : List Dm) (b n i : Nat) (Lc : List Dm) : List Dm := Z.take b ++ (Lc ++ S2.drop i) ++ Z.drop (b + n)
theorem zc_len {Z S2 Lc : List Dm} {b n i : Nat} (hb : b + n ≤ Z.length) (hl : Lc.length + (S2.length - i) = n) : (Zc Z S2 b n i Lc).length = Z.length := by
  unfold Zc; simp only [List.length_append, List.length_take, List.length_drop]; omega
theorem zc_seg {Z S2 Lc : List Dm} {b n i : Nat} (hb : b + n ≤ Z.length) (hl : Lc.length + (S2.length - i) = n) : ((Zc Z S2 b n i Lc).drop b).take n = Lc ++ S2.drop i := by
  unfold Zc
  have h1 : (Z.take b).length = b := by rw [List.length_take]; omega
  have h2 : (Lc ++ S2.drop i).length = n := by rw [List.length_append, List.length_drop]; exact hl
  rw [List.append_assoc]
  rw [List.drop_append_of_le_length (by omega), List.drop_of_length_le (by omega), List.nil_append, List.take_append_of_le_length (by omega), List.take_of_length_le (by omega)]
theorem zc_bnd {Z S1 S2 Lc : List Dm} {b n i : Nat} (h : Bnd Z) (hb : b + n ≤ Z.length) (hl : Lc.length + (S2.length - i) = n) (hm : ∀ z ∈ Lc, z ∈ S1 ∨ z ∈ S2) (h1 : ∀ z ∈ S1, z ∈ Z) (h2 : ∀ z ∈ S2, z ∈ Z) : Bnd (Zc Z S2 b n i Lc) := by
  refine ⟨by rw [zc_len hb hl]; exact h.1, fun z hz => h.2 z ?_⟩
  unfold Zc at hz
  simp only [List.mem_append] at hz
  rcases hz with (hz | hz | hz) | hz
  · exact List.mem_of_mem_take hz
  · rcases hm z hz with q | q
    · exact h1 z q
    · exact h2 z q
  · exact h2 z (List.mem_of_mem_drop hz)
  · exact List.mem_of_mem_drop hz
/-- where the loop begins -/
theorem zc_start {Z S1 S2 : List Dm} {b n hf : Nat} (hb : b + n ≤ Z.length) (hf2 : hf < n) (h1 : S1.length = hf) (h2 : S2.length = n - hf) :
    (Z.take b ++ S1 ++ Z.drop (b + hf)).take (b + hf) ++ S2 ++ (Z.take b ++ S1 ++ Z.drop (b + hf)).drop (b + hf + (n - hf)) = Zc Z S2 b n 0 S1 ∧
    ((Z.take b ++ S1 ++ Z.drop (b + hf)).drop (b + hf)).take (n - hf) = (Z.drop (b + hf)).take (n - hf) ∧ (Z.drop b).take n = (Z.drop b).take hf ++ (Z.drop (b + hf)).take (n - hf) := by
  have hl : (Z.take b ++ S1).length = b + hf := by rw [List.length_append, List.length_take]; omega
  refine ⟨?_, ?_, ?_⟩
  · have e3 : (Z.take b ++ S1 ++ Z.drop (b + hf)).drop (b + hf + (n - hf)) = Z.drop (b + n) := by
      rw [List.drop_append, List.drop_of_length_le (by omega), List.nil_append, hl, List.drop_drop]
      congr 1; omega
    rw [e3, List.take_append_of_le_length (by omega), List.take_of_length_le (by omega)]
    unfold Zc
    simp only [List.drop_zero, List.append_assoc]
  · rw [List.drop_append_of_le_length (by omega), List.drop_of_length_le (by omega), List.nil_append]
  · conv => lhs; rw [show n = hf + (n - hf) by omega, List.take_add, List.drop_drop]
theorem mvZ_same {Z : List Dm} {j : Nat} {z : Dm} (hj : j < Z.length) (hz : Z[j]? = some z) : mvZ Z j j z = Z := by
  apply List.ext_getElem?
  intro i
  rw [mvZ_get (Nat.le_refl _) hj]
  by_cases h1 : i < j
  · rw [if_pos h1]
  · rw [if_neg h1]
    by_cases h2 : i = j
    · rw [if_pos h2, h2, hz]
    · rw [if_neg h2, if_neg (by omega)]
theorem zc_turn {Z S1 S2 Lc : List Dm} {b n hf i k p : Nat} {z : Dm} (hb : b + n ≤ Z.length) (h1 : S1.length = hf) (h2 : S2.length = n - hf) (hss : SS keyZ (S1 ++ S2.take i) Lc) (hk : k = hf + i) (hkn : k < n) (hp : p ≤ k)
    (hz : (((Zc Z S2 b n i Lc).drop b).take n)[k]? = some z)
    (hlo : ∀ j y, j < p → (((Zc Z S2 b n i Lc).drop b).take n)[j]? = some y → keyZ y ≤ keyZ z)
    (hhi : p = k ∨ ∃ y, (((Zc Z S2 b n i Lc).drop b).take n)[p]? = some y ∧ keyZ z < keyZ y) :
    ∃ Lc', SS keyZ (S1 ++ S2.take (i + 1)) Lc' ∧ mvZ (Zc Z S2 b n i Lc) (b + k) (b + p) z = Zc Z S2 b n (i + 1) Lc' := by
  have hl : Lc.length = k := by rw [hss.perm.length_eq, List.length_append, List.length_take]; omega
  have hl2 : Lc.length + (S2.length - i) = n := by clear hhi hlo hz; omega
  rw [zc_seg hb hl2] at hz hlo hhi
  have hz2 : S2[i]? = some z := by
    rw [List.getElem?_append_right (by omega), hl, Nat.sub_self, List.getElem?_drop] at hz
    simpa using hz
  have hi : i < S2.length := by omega
  have ed : S2.drop i = z :: S2.drop (i + 1) := by
    rw [List.drop_eq_getElem_cons hi]
    have : S2[i] = z := by simpa [hi] using hz2
    rw [this]
  have et : S2.take (i + 1) = S2.take i ++ [z] := by rw [List.take_add_one, hz2]; rfl
  have eL : Lc = Lc.take p ++ Lc.drop p := (List.take_append_drop p Lc).symm
  have hss' : SS keyZ (S1 ++ S2.take i) (Lc.take p ++ Lc.drop p) := by rw [← eL]; exact hss
  refine ⟨Lc.take p ++ z :: Lc.drop p, ?_, ?_⟩
  · rw [et, ← List.append_assoc]
    refine hss'.ins (fun a ha => ?_) fun a ha => ?_
    · obtain ⟨j, e⟩ := List.mem_iff_getElem?.mp ha
      have hj : j < p := by
        rcases Nat.lt_or_ge j p with q | q
        · exact q
        · rw [List.getElem?_take, if_neg (by omega)] at e; cases e
      rw [List.getElem?_take, if_pos hj] at e
      refine hlo j a hj ?_
      rw [List.getElem?_append_left (by omega)]; exact e
    · rcases hhi with rfl | ⟨y, hy, hlt⟩
      · rw [List.drop_of_length_le (by omega)] at ha; cases ha
      · by_cases hpk : p < k
        · have hy' : Lc[p]? = some y := by rw [List.getElem?_append_left (by omega)] at hy; exact hy
          have hd : Lc.drop p = y :: Lc.drop (p + 1) := by
            rw [List.drop_eq_getElem_cons (by omega)]
            have : Lc[p]'(by omega) = y := by simpa [show p < Lc.length by omega] using hy'
            rw [this]
          have hasc := (List.pairwise_append.mp hss'.asc).2.1
          rw [hd] at hasc ha
          rcases List.mem_cons.mp ha with rfl | ha
          · exact hlt
          · exact Nat.lt_of_lt_of_le hlt ((List.pairwise_cons.mp hasc).1 a ha)
        · rw [List.drop_of_length_le (by omega)] at ha; cases ha
  · apply List.ext_getElem?
    intro x
    have hlen : (Zc Z S2 b n i Lc).length = Z.length := zc_len hb hl2
    rw [mvZ_get (by omega) (by omega)]
    have hA : (Z.take b).length = b := by rw [List.length_take]; omega
    have g : ∀ x, (Zc Z S2 b n i Lc)[x]? = if x < b then Z[x]? else if x < b + k then Lc[x - b]? else if x = b + k then some z else if x < b + n then (S2.drop (i + 1))[x - b - k - 1]? else (Z.drop (b + n))[x - b - n]? := by
      intro x
      unfold Zc
      rw [ed, List.append_assoc]
      by_cases c1 : x < b
      · rw [if_pos c1, List.getElem?_append_left (by omega), List.getElem?_take, if_pos c1]
      · rw [if_neg c1, List.getElem?_append_right (by omega), hA, List.append_assoc]
        by_cases c2 : x < b + k
        · rw [if_pos c2, List.getElem?_append_left (by omega)]
        · rw [if_neg c2, List.getElem?_append_right (by omega), hl]
          by_cases c3 : x = b + k
          · rw [if_pos c3, c3, show b + k - b - k = 0 by omega]; rfl
          · rw [if_neg c3, show x - b - k = (x - b - k - 1) + 1 by omega, List.cons_append, List.getElem?_cons_succ]
            have hS : (S2.drop (i + 1)).length = n - k - 1 := by rw [List.length_drop]; omega
            by_cases c4 : x < b + n
            · rw [if_pos c4, List.getElem?_append_left (by omega)]; congr 1
            · rw [if_neg c4, List.getElem?_append_right (by omega), hS]; congr 1; omega
    have g2 : (Zc Z S2 b n (i + 1) (Lc.take p ++ z :: Lc.drop p))[x]? = if x < b then Z[x]? else if x < b + p then Lc[x - b]? else if x = b + p then some z else if x ≤ b + k then Lc[x - b - 1]? else if x < b + n then (S2.drop (i + 1))[x - b - k - 1]? else (Z.drop (b + n))[x - b - n]? := by
      unfold Zc
      have hT : (Lc.take p).length = p := by rw [List.length_take]; omega
      have hD : (Lc.drop p).length = k - p := by rw [List.length_drop]; omega
      rw [List.append_assoc]
      by_cases c1 : x < b
      · rw [if_pos c1, List.getElem?_append_left (by omega), List.getElem?_take, if_pos c1]
      · rw [if_neg c1, List.getElem?_append_right (by omega), hA, List.append_assoc, List.append_assoc]
        by_cases c2 : x < b + p
        · rw [if_pos c2, List.getElem?_append_left (by omega), List.getElem?_take, if_pos (by omega)]
        · rw [if_neg c2, List.getElem?_append_right (by omega), hT]
          by_cases c3 : x = b + p
          · rw [if_pos c3, c3, show b + p - b - p = 0 by omega]; rfl
          · rw [if_neg c3, show x - b - p = (x - b - p - 1) + 1 by omega, List.cons_append, List.getElem?_cons_succ]
            by_cases c4 : x ≤ b + k
            · rw [if_pos c4, List.getElem?_append_left (by omega), List.getElem?_drop]; congr 1; omega
            · rw [if_neg c4, List.getElem?_append_right (by omega), hD]
              have hS : (S2.drop (i + 1)).length = n - k - 1 := by rw [List.length_drop]; omega
              by_cases c5 : x < b + n
              · rw [if_pos c5, List.getElem?_append_left (by omega)]; congr 1; omega
              · rw [if_neg c5, List.getElem?_append_right (by omega), hS]; congr 1; omega
    rw [g2]
    by_cases c1 : x < b
    · rw [if_pos c1, if_pos (by omega), g, if_pos c1]
    · rw [if_neg c1]
      by_cases c2 : x < b + p
      · rw [if_pos c2, if_pos c2, g, if_neg c1, if_pos (by omega)]
      · rw [if_neg c2, if_neg c2]
        by_cases c3 : x = b + p
        · rw [if_pos c3, if_pos c3]
        · rw [if_neg c3, if_neg c3]
          by_cases c4 : x ≤ b + k
          · rw [if_pos c4, if_pos c4, g, if_neg (by omega), if_pos (by omega)]; congr 1; omega
          · rw [if_neg c4, if_neg c4, g, if_neg c1, if_neg (by omega), if_neg (by omega)]
end Mine
namespace Mine
def loNames : List Str := [Str.ofString "k", Str.ofString "place", Str.ofString "source", Str.ofString "spot", Str.ofString "word"]
def LoJ (w : World) (v dv d it : Addr) (off : Int) (t1 t2 t3 t4 to : Tok) (r2 : List Lv) (T0 : List (Addr × Obj)) (e9 : Addr × Obj) (rest : List (Addr × Obj)) (Z S1 S2 : List Dm) (b n : Nat) (q : List (Nat × Nat)) (m₀ : Str → Option Value)
    (i : Nat) (m : Str → Option Value) (nx : List (Addr × Obj)) : Prop :=
  ∃ (xs : List Value) (nd : Nat) (ys : List Value) (ni : Nat) (r' : List Lv) (T' : List (Addr × Obj)) (Lc : List Dm), nx = led w (⟨v, dv, d, it, off, t1, t2, t3, t4, to, xs, nd, ys, ni⟩ :: r') ++ (T' ++ (e9 :: rest)) ∧ Sep nx ∧ Same r2 r' ∧ (∀ p ∈ T0, p ∈ T') ∧
    SS keyZ (S1 ++ S2.take i) Lc ∧ Geo T' (Zc Z S2 b n i Lc) (⟨v, dv, d, it, off, t1, t2, t3, t4, to, xs, nd, ys, ni⟩ :: r') ((b, n) :: q) ∧ (∀ z, loNames.contains z = false → m z = m₀ z)
theorem fr_names {h₀ h : Heap} {L : Addr} {m m₀ : Str → Option Value} {x : Str} {v : Value} (F : Fr h₀ L h (fun y => if y = x then some v else m y)) (hm : ∀ z, loNames.contains z = false → m z = m₀ z) : Fr h₀ L h (fun y => if y = x then some v else if loNames.contains y then m y else m₀ y) := by
  have e : (fun y => if y = x then some v else if loNames.contains y then m y else m₀ y) = fun y => if y = x then some v else m y := by
    funext y
    by_cases h1 : y = x
    · simp [h1]
    · simp only [if_neg h1]
      cases h2 : loNames.contains y with
      | true => simp
      | false => simp only [Bool.false_eq_true, if_false]; exact (hm y h2).symm
  rw [e]; exact F
theorem fr_over {h₀ h : Heap} {L : Addr} {m : Str → Option Value} {x : Str} {v u : Option Value} (F : Fr h₀ L h (fun y => if y = x then v else (if y = x then u else m y))) : Fr h₀ L h (fun y => if y = x then v else m y) := by
  have e : (fun y => if y = x then v else (if y = x then u else m y)) = fun y => if y = x then v else m y := by
    funext y
    by_cases h1 : y = x
    · simp [h1]
    · simp [h1]
  rw [← e]; exact F
theorem leWord {prog : Program} {w : World} {A : Around} {E : Value → Shared → Prop} {s : Shared} {a b : Nat} {t u : Tok} {Q : Value → Shared → Prop} (h : Q (.bool (decide (a ≤ b))) s) : wpAny (model prog w) A (compareOp .LtE (.str ⟨#[a]⟩ t) (.str ⟨#[b]⟩ u)) Q E s := by
  refine P.le_str ?_
  have e : (!(decide ((Str.mk #[b]).cps.toList < (Str.mk #[a]).cps.toList))) = decide (a ≤ b) := by
    rw [str_lt1]
    by_cases h : b < a
    · rw [decide_eq_true h, decide_eq_false (by omega)]; rfl
    · rw [decide_eq_false h, decide_eq_true (by omega)]; rfl
  rw [e]; exact h
theorem holds_at {T : List (Addr × Obj)} {l : Lv} {zs : List Dm} (h : Holds T l zs) {i : Nat} (hi : i < zs.length) : ∃ z, zs[i]? = some z ∧ (∃ t, l.xs[i]? = some (.str ⟨#[z.1]⟩ t)) ∧ ∃ a t t', l.ys[i]? = some (.ref a) ∧ (a, tupOf (.str ⟨#[z.2.1]⟩ t) (.int z.2.2 t')) ∈ T := by
  have l1 := h.xs.len
  have l2 := h.ys.len
  obtain ⟨t, e⟩ := h.xs.get i (by omega) hi
  obtain ⟨a, u, u', e2, m⟩ := h.ys.get i (by omega) hi
  refine ⟨zs[i], by simp [hi], ⟨t, ?_⟩, a, u, u', ?_, m⟩
  · rw [List.getElem?_eq_getElem (by omega), e]
  · rw [List.getElem?_eq_getElem (by omega), e2]
end Mine
namespace Mine
def PlEnd (h₀ : Heap) (L : Addr) (s : Shared) (m₀ : Str → Option Value) (news : List (Addr × Obj)) (kk : Nat) (P : Nat → Prop) (p : Nat) (s₃ : Shared) : Prop :=
  ∃ h' tk' t', s₃ = { s with heap := h', toks := tk' } ∧ Fr h₀ L h' (fun y => if y = Str.ofString "place" then some (.int ((p : Int) + 1) t') else m₀ y) ∧ News h₀ L h' news ∧ p + 1 ≤ kk ∧ P (p + 1)
def PlPost (h₀ : Heap) (L : Addr) (s : Shared) (m₀ : Str → Option Value) (news : List (Addr × Obj)) (kk : Nat) (P : Nat → Prop) (Q : Flow → Shared → Prop) (p : Nat) (f : Flow) (s₃ : Shared) : Prop :=
  match f with
  | .ret v => Q (.ret v) s₃
  | .brk => Q .next s₃
  | _ => PlEnd h₀ L s m₀ news kk P p s₃
theorem whilePlace {prog : Program} {w : World} {A : Around} {E : Value → Shared → Prop} {Q : Flow → Shared → Prop} {s : Shared} {env : Env} {h₀ : Heap} {L : Addr} {test : PySem.Expr} {body : List Stmt} {pos : Pos} {m₀ : Str → Option Value} {news : List (Addr × Obj)} {kk : Nat} {t0 : Tok} (P : Nat → Prop)
    (F : Fr h₀ L s.heap m₀) (N : News h₀ L s.heap news) (h0 : m₀ (Str.ofString "place") = some (.int ((0 : Nat) : Int) t0)) (hp : P 0)
    (turn : ∀ p t h tk, p ≤ kk → P p → Fr h₀ L h (fun y => if y = Str.ofString "place" then some (.int (p : Int) t) else m₀ y) → News h₀ L h news →
      wpAny (model prog w) A (isTrue test env (eval test env)) (fun b s₂ => if b = true then wpAny (model prog w) A (execs body env) (PlPost h₀ L s m₀ news kk P Q p) E s₂ else Q .next s₂) E { s with heap := h, toks := tk })
    (hE : PassesOwn (model prog w) A env E := by passes_own) : wpAny (model prog w) A (exec (.While test body [] pos) env) Q E s := by
  have e0 : ∀ (p : Nat) (t : Tok), (fun y => if y = Str.ofString "place" then some (Value.int (p : Int) t) else m₀ y) = kstB (fun z => if ([] : List Str).contains z then m₀ z else m₀ z) [(Str.ofString "place", Value.int (p : Int) t)] := by
    intro p t
    funext y
    show _ = if y = Str.ofString "place" then some (Value.int (p : Int) t) else (if ([] : List Str).contains y = true then m₀ y else m₀ y)
    simp
  refine ksw_while (σ := Nat × Tok) (fun _ => news) (fun c => [(Str.ofString "place", Value.int (c.1 : Int) c.2)]) (fun _ => True) [] (fun c => c.1 ≤ kk ∧ P c.1) (fun c => kk - c.1) (0, t0) F N trivial ?_ ⟨Nat.zero_le _, hp⟩ ?_ hE
  · intro p hp
    rw [List.mem_singleton.mp hp]
    exact h0
  · rintro ⟨p, t⟩ u h tk _ ⟨hpk, hP⟩ F' N'
    have F2 : Fr h₀ L h (fun y => if y = Str.ofString "place" then some (Value.int (p : Int) t) else m₀ y) := by
      rw [e0]
      have : (fun z => if ([] : List Str).contains z then m₀ z else m₀ z) = (fun z => if ([] : List Str).contains z then u z else m₀ z) := by funext z; simp
      rw [this]; exact F'
    refine wpAny_mono (turn p t h tk hpk hP F2 N') (fun b s₂ q => ?_) fun _ _ x => x
    cases b with
    | false => simpa using q
    | true =>
      simp only [if_true] at q ⊢
      refine wpAny_mono q (fun f s₃ q => ?_) fun _ _ x => x
      have fin : PlEnd h₀ L s m₀ news kk P p s₃ → KswEnd h₀ L s (fun _ => news) (fun c => [(Str.ofString "place", Value.int (c.1 : Int) c.2)]) (fun _ => True) [] m₀ (fun c => c.1 ≤ kk ∧ P c.1) (fun c => kk - c.1) (p, t) s₃ := by
        rintro ⟨h', tk', t', rfl, F', N', h1, h2⟩
        refine ⟨(p + 1, t'), h', tk', _, news, rfl, F', N', fun _ hp => hp, trivial, ?_, ?_, ⟨h1, h2⟩, by dsimp only; omega⟩
        · intro q hq
          rw [List.mem_singleton.mp hq]
          show (if Str.ofString "place" = Str.ofString "place" then _ else _) = some (Value.int ((p + 1 : Nat) : Int) t')
          rw [if_pos rfl, show ((p + 1 : Nat) : Int) = (p : Int) + 1 by omega]
        · intro z hz _
          have : z ≠ Str.ofString "place" := hz _ (.head _)
          simp only [if_neg this]
      cases f with
      | ret v => exact q
      | brk => exact q
      | next => exact fin q
      | cont => exact fin q
end Mine
namespace Mine
theorem sep_left {A B : List (Addr × Obj)} (h : Sep (A ++ B)) : Sep A := by
  unfold Sep at *
  rw [List.map_append, List.nodup_append] at h
  exact h.1
theorem sep_off {A B own : List (Addr × Obj)} (h : Sep (A ++ B)) (how : ∀ p, p ∈ B ↔ p ∈ own) : OwnOff own (A.map (·.1)) := by
  unfold Sep at h
  rw [List.map_append, List.nodup_append] at h
  intro p hp b hb e
  exact h.2.2 b hb p.1 (List.mem_map.mpr ⟨p, (how p).mpr hp, rfl⟩) e.symm
theorem names_off {z : Str} (h : loNames.contains z = false) : z ≠ Str.ofString "k" ∧ z ≠ Str.ofString "place" ∧ z ≠ Str.ofString "source" ∧ z ≠ Str.ofString "spot" ∧ z ≠ Str.ofString "word" := by
  refine ⟨?_, ?_, ?_, ?_, ?_⟩ <;> (rintro rfl; revert h; decide +kernel)
section
variable {w : World} {v dv d it : Addr} {off : Int} {t1 t2 t3 t4 to : Tok} {r2 r3 : List Lv} {T0 T3 : List (Addr × Obj)} {e9 : Addr × Obj} {rest own own2 : List (Addr × Obj)} {Z S1 S2 Lc : List Dm} {b n hf i kk p : Nat} {q : List (Nat × Nat)} {m₀ m' : Str → Option Value} {xs ys : List Value} {nd ni : Nat} {z : Dm}
theorem lo_end_stay (hb : b + n ≤ Z.length) (h1 : S1.length = hf) (h2 : S2.length = n - hf) (hss : SS keyZ (S1 ++ S2.take i) Lc) (hk : kk = hf + i) (hkn : kk < n) (hp : p = kk)
    (hz : (((Zc Z S2 b n i Lc).drop b).take n)[kk]? = some z) (hlo : ∀ j y, j < p → (((Zc Z S2 b n i Lc).drop b).take n)[j]? = some y → keyZ y ≤ keyZ z)
    (hS : Sep (led w (⟨v, dv, d, it, off, t1, t2, t3, t4, to, xs, nd, ys, ni⟩ :: r3) ++ (T3 ++ (e9 :: (rest ++ own2))))) (hsm : Same r2 r3) (hT : ∀ p ∈ T0, p ∈ T3)
    (hG : Geo T3 (Zc Z S2 b n i Lc) (⟨v, dv, d, it, off, t1, t2, t3, t4, to, xs, nd, ys, ni⟩ :: r3) ((b, n) :: q)) (hm : ∀ z, loNames.contains z = false → m' z = m₀ z) :
    LoJ w v dv d it off t1 t2 t3 t4 to r2 T0 e9 rest Z S1 S2 b n q m₀ (i + 1) m' (led w (⟨v, dv, d, it, off, t1, t2, t3, t4, to, xs, nd, ys, ni⟩ :: r3) ++ (T3 ++ (e9 :: rest))) := by
  subst hp
  have hl : Lc.length = p := by rw [hss.perm.length_eq, List.length_append, List.length_take]; omega
  have hlen : (Zc Z S2 b n i Lc).length = Z.length := zc_len hb (by omega)
  obtain ⟨Lc', hss', he⟩ := zc_turn (p := p) hb h1 h2 hss hk hkn (Nat.le_refl _) hz hlo (.inl rfl)
  rw [mvZ_same (by omega) (by rw [List.getElem?_take, if_pos hkn, List.getElem?_drop] at hz; exact hz)] at he
  refine ⟨xs, nd, ys, ni, r3, T3, Lc', rfl, ?_, hsm, hT, hss', by rw [← he]; exact hG, hm⟩
  have : Sep ((led w (⟨v, dv, d, it, off, t1, t2, t3, t4, to, xs, nd, ys, ni⟩ :: r3) ++ (T3 ++ (e9 :: rest))) ++ own2) := by simpa only [List.append_assoc, List.cons_append] using hS
  exact sep_left this
theorem lo_end_move {x : Value} {tu tu' : Tok} {as : List Addr} (hb : b + n ≤ Z.length) (h1 : S1.length = hf) (h2 : S2.length = n - hf) (hss : SS keyZ (S1 ++ S2.take i) Lc) (hk : kk = hf + i) (hkn : kk < n) (hp : p ≤ kk)
    (hz : (((Zc Z S2 b n i Lc).drop b).take n)[kk]? = some z) (hlo : ∀ j y, j < p → (((Zc Z S2 b n i Lc).drop b).take n)[j]? = some y → keyZ y ≤ keyZ z)
    (hhi : ∃ y, (((Zc Z S2 b n i Lc).drop b).take n)[p]? = some y ∧ keyZ z < keyZ y) (hx : WordZ x z) (ha : as.length = r3.length + 1)
    (hS : Sep (led w (insL (popL (⟨v, dv, d, it, off, t1, t2, t3, t4, to, xs, nd, ys, ni⟩ :: r3) kk) p x as) ++ (tupsOf (.str ⟨#[z.2.1]⟩ tu) (.int z.2.2 tu') as ++ (T3 ++ (e9 :: (rest ++ own2)))))) (hsm : Same r2 r3) (hT : ∀ p ∈ T0, p ∈ T3)
    (hG : Geo T3 (Zc Z S2 b n i Lc) (⟨v, dv, d, it, off, t1, t2, t3, t4, to, xs, nd, ys, ni⟩ :: r3) ((b, n) :: q)) (hm : ∀ z, loNames.contains z = false → m' z = m₀ z) :
    LoJ w v dv d it off t1 t2 t3 t4 to r2 T0 e9 rest Z S1 S2 b n q m₀ (i + 1) m' (led w (insL (popL (⟨v, dv, d, it, off, t1, t2, t3, t4, to, xs, nd, ys, ni⟩ :: r3) kk) p x as) ++ ((tupsOf (.str ⟨#[z.2.1]⟩ tu) (.int z.2.2 tu') as ++ T3) ++ (e9 :: rest))) := by
  obtain ⟨Lc', hss', he⟩ := zc_turn (p := p) hb h1 h2 hss hk hkn hp hz hlo (.inr hhi)
  have hg := geo_move (T' := tupsOf (.str ⟨#[z.2.1]⟩ tu) (.int z.2.2 tu') as ++ T3) (fun y hy => List.mem_append.mpr (.inr hy)) hx tu tu' hG hkn hp ha (fun y hy => List.mem_append.mpr (.inl hy))
  rw [he] at hg
  have hsep : Sep ((led w (insL (popL (⟨v, dv, d, it, off, t1, t2, t3, t4, to, xs, nd, ys, ni⟩ :: r3) kk) p x as) ++ ((tupsOf (.str ⟨#[z.2.1]⟩ tu) (.int z.2.2 tu') as ++ T3) ++ (e9 :: rest))) ++ own2) := by
    simpa only [List.append_assoc, List.cons_append] using hS
  cases as with
  | nil => simp at ha
  | cons a as =>
    refine ⟨_, _, _, _, insL (popL r3 (kk + off.toNat)) (p + off.toNat) x as, _, Lc', rfl, sep_left hsep, hsm.trans (same_move r3 _ _ as (by simpa using ha)), fun y hy => List.mem_append.mpr (.inr (hT y hy)), hss', hg, hm⟩
end
end Mine
namespace Mine
theorem subA3 {α : Type} {A B C R O : List α} {x : α} : ∀ p ∈ A ++ ((B ++ C) ++ (x :: R)), p ∈ A ++ (B ++ (C ++ (x :: (R ++ O)))) := by
  intro p hp
  simp only [List.mem_append, List.mem_cons] at hp ⊢
  rcases hp with h | (h | h) | h | h <;> simp [h]
theorem subO3 {α : Type} {A B C R O own : List α} {x : α} (how : ∀ p, p ∈ O ↔ p ∈ own) : ∀ p ∈ own, p ∈ A ++ (B ++ (C ++ (x :: (R ++ O)))) := by
  intro p hp
  have := (how p).mpr hp
  simp [this]
theorem subA2 {α : Type} {A C R O : List α} {x : α} : ∀ p ∈ A ++ (C ++ (x :: R)), p ∈ A ++ (C ++ (x :: (R ++ O))) := by
  intro p hp
  simp only [List.mem_append, List.mem_cons] at hp ⊢
  rcases hp with h | h | h | h <;> simp [h]
theorem subO2 {α : Type} {A C R O own : List α} {x : α} (how : ∀ p, p ∈ O ↔ p ∈ own) : ∀ p ∈ own, p ∈ A ++ (C ++ (x :: (R ++ O))) := by
  intro p hp
  have := (how p).mpr hp
  simp [this]
theorem sepReO {A C R O : List (Addr × Obj)} {x : Addr × Obj} (h : Sep (A ++ (C ++ (x :: (R ++ O))))) : Sep ((A ++ (C ++ (x :: R))) ++ O) := by
  simpa only [List.append_assoc, List.cons_append] using h
theorem sepReO3 {A B C R O : List (Addr × Obj)} {x : Addr × Obj} (h : Sep (A ++ (B ++ (C ++ (x :: (R ++ O)))))) : Sep ((A ++ ((B ++ C) ++ (x :: R))) ++ O) := by
  simpa only [List.append_assoc, List.cons_append] using h
end Mine
namespace Mine
theorem sepPop {w : World} {C : List Lv} {R : List (Addr × Obj)} (k : Nat) (h : Sep (led w C ++ R)) : Sep (led w (popL C k) ++ R) := h.of_map (by rw [List.map_append, List.map_append, addr_popL])
end Mine
namespace Mine
theorem rangeSz {a b : Nat} (h : a ≤ b) : Builtin.Range.rangeSize (a : Int) (b : Int) 1 = ((b - a : Nat) : Int) := by
  unfold Builtin.Range.rangeSize
  rw [if_pos (by decide)]
  split <;> omega
theorem fr_names0 {h₀ h : Heap} {L : Addr} {m m₀ : Str → Option Value} (F : Fr h₀ L h m) (hm : ∀ z, loNames.contains z = false → m z = m₀ z) : Fr h₀ L h (fun y => if loNames.contains y then m y else m₀ y) := by
  have e : (fun y => if loNames.contains y then m y else m₀ y) = m := by
    funext y
    cases h2 : loNames.contains y with
    | true => simp
    | false => simp only [Bool.false_eq_true, if_false]; exact (hm y h2).symm
  rw [e]; exact F
def datW (c : Nat) : Dat := .str ⟨#[c]⟩
theorem words_dat {xs : List Value} {cs : List Nat} (h : Words xs cs) : DatAll [] xs (cs.map datW) := by
  induction h with
  | nil => exact .nil
  | cons a _ ih =>
    obtain ⟨t, rfl⟩ := a
    exact .cons (.str _ t) ih
theorem datW_ok {c : Nat} (h : c < 128) : kqdOk 8 (datW c) = true := by
  unfold datW kqdOk PyData.strOk
  simp
  omega
section
variable {prog : Program} {w : World} {A : Around} {E : Value → Shared → Prop} {s : Shared} {h₀ : Heap} {L a b : Addr} {news : List (Addr × Obj)} {xs ys : List Value} {cs : List Nat} {ka kb : Nat} {Q : Value → Shared → Prop}
theorem neWords (N : News h₀ L s.heap news) (ma : (a, listOf xs.toArray ka) ∈ news) (mb : (b, listOf ys.toArray kb) ∈ news) (hx : Words xs cs) (hy : Words ys cs) (hb : ∀ c ∈ cs, c < 128) (hu : A.units + 64 < cLine) (h : Q (.bool false) s) :
    wpAny (model prog w) A (compareOp .NotEq (.ref a) (.ref b)) Q E s := by
  have hk : ∀ d ∈ cs.map datW, kqdOk 8 d = true := fun d hd => by
    obtain ⟨c, hc, rfl⟩ := List.mem_map.mp hd
    exact datW_ok (hb c hc)
  refine kqd_ne N ma rfl rfl (words_dat hx) (fun _ hp => nomatch hp) mb rfl rfl (words_dat hy) (fun _ hp => nomatch hp) hk hk hu ?_
  simpa using h
theorem eqWords (N : News h₀ L s.heap news) (ma : (a, listOf xs.toArray ka) ∈ news) (mb : (b, listOf ys.toArray kb) ∈ news) (hx : Words xs cs) (hy : Words ys cs) (hb : ∀ c ∈ cs, c < 128) (hu : A.units + 64 < cLine) (h : Q (.bool true) s) :
    wpAny (model prog w) A (compareOp .Eq (.ref a) (.ref b)) Q E s := by
  have hk : ∀ d ∈ cs.map datW, kqdOk 8 d = true := fun d hd => by
    obtain ⟨c, hc, rfl⟩ := List.mem_map.mp hd
    exact datW_ok (hb c hc)
  refine kqd_eq N ma rfl rfl (words_dat hx) (fun _ hp => nomatch hp) mb rfl rfl (words_dat hy) (fun _ hp => nomatch hp) hk hk hu ?_
  simpa using h
end
theorem led_last {w : World} {T : List (Addr × Obj)} {Z : List Dm} : ∀ {C : List Lv} {q : List (Nat × Nat)}, Geo T Z C q → ∃ (dvw dw iw : Addr) (u1 u2 u3 u4 : Tok) (wx : List Value) (nw : Nat) (wy : List Value) (niw : Nat),
    (lastV C, instObj 266 dvw) ∈ led w C ∧ (dvw, vDict w dw iw .none .none u1 u2 u3 u4) ∈ led w C ∧ (dw, listOf wx.toArray nw) ∈ led w C ∧ (iw, listOf wy.toArray niw) ∈ led w C ∧ All2 WordZ wx Z ∧ All2 (Tup T) wy Z
  | [], _, h => h.elim
  | [l], [(b, n)], h => ⟨l.dv, l.d, l.it, l.t1, l.t2, l.t3, l.t4, l.xs, l.nd, l.ys, l.ni, .head _, .tail _ (.head _), .tail _ (.tail _ (.head _)), .tail _ (.tail _ (.tail _ (.head _))), h.2.2.2.xs, h.2.2.2.ys⟩
  | [l], [], h => h.elim
  | [l], _ :: _ :: _, h => h.elim
  | _ :: _ :: _, [], h => h.elim
  | _ :: _ :: _, [_], h => h.elim
  | _ :: l2 :: r, (_, _) :: (_, _) :: _, h => by
    obtain ⟨dvw, dw, iw, u1, u2, u3, u4, wx, nw, wy, niw, a1, a2, a3, a4, a5, a6⟩ := led_last (w := w) h.2.2.2.2
    exact ⟨dvw, dw, iw, u1, u2, u3, u4, wx, nw, wy, niw, .tail _ (.tail _ (.tail _ (.tail _ a1))), .tail _ (.tail _ (.tail _ (.tail _ a2))), .tail _ (.tail _ (.tail _ (.tail _ a3))), .tail _ (.tail _ (.tail _ (.tail _ a4))), a5, a6⟩
theorem ss_map {seg L : List Dm} (h : SS keyZ seg L) : SS (fun c : Nat => c) (seg.map (·.1)) (L.map (·.1)) := by
  refine ⟨h.perm.map _, List.pairwise_map.mpr h.asc, fun c => ?_⟩
  have e := congrArg (List.map (·.1)) (h.alike c)
  rw [List.filter_map, List.filter_map]
  exact e
theorem sorted_codes {cs : List Nat} {p : List Nat} (hp : p.Perm (List.range cs.length)) (hR : p.Pairwise (R fun i => cs.getD i 0)) : SS (fun c : Nat => c) cs (p.map fun i => cs.getD i 0) :=
  SS.of_idx cs (fun i => cs.getD i 0) (fun i h => by simp [h]) p hp hR
theorem words_pick {xs : List Value} {cs : List Nat} (h : Words xs cs) (p : List Nat) (hp : ∀ i ∈ p, i < cs.length) : Words (p.map fun i => xs.getD i Value.none) (p.map fun i => cs.getD i 0) := by
  induction p with
  | nil => exact .nil
  | cons i r ih =>
    have hi := hp i (.head _)
    have hx : i < xs.length := by rw [h.len]; exact hi
    refine .cons ?_ (ih fun j hj => hp j (.tail _ hj))
    have := h.get i hx hi
    simpa [hx, hi] using this
end Mine
namespace Mine
theorem sepMid {A B R : List (Addr × Obj)} {x : Addr × Obj} (h : Sep (A ++ (B ++ (x :: R)))) : Sep (A ++ (B ++ R)) := by
  have := h.perm (permIns (A := A) (B := B) (r := R) (x := x)).symm
  unfold Sep at this ⊢
  rw [List.map_cons, List.nodup_cons] at this
  exact this.2
theorem subEnd {α : Type} {t x a b c d : α} {A B R : List α} : ∀ p ∈ (a :: b :: c :: d :: A) ++ (B ++ R), p ∈ t :: a :: b :: c :: d :: (A ++ (B ++ (x :: R))) := by
  intro p hp
  simp only [List.cons_append, List.mem_cons, List.mem_append] at hp ⊢
  rcases hp with h | h | h | h | h | h | h <;> simp [h]
theorem pickRun2 (xs : List Value) (a n : Nat) (h : a + n ≤ xs.length) : kms_pick xs (some (a : Int)) (some ((a : Int) + (n : Int))) = (xs.drop a).take n := by
  rw [show (a : Int) + (n : Int) = ((a + n : Nat) : Int) by omega, pickRun xs a (a + n) (by omega) h, show a + n - a = n by omega]
theorem subDone {p1 p2 p3 p4 q1 q2 q3 q4 : Addr × Obj} {l T rest : List (Addr × Obj)} (h1 : p1 ∈ l) (h2 : p2 ∈ l) (h3 : p3 ∈ l) : ∀ p ∈ p1 :: p2 :: p3 :: p4 :: q1 :: q2 :: q3 :: q4 :: (l ++ (T ++ p4 :: rest)), p ∈ q1 :: q2 :: q3 :: q4 :: (l ++ (T ++ p4 :: rest)) := by
  intro p hp
  have e : ∀ x ∈ l, x ∈ q1 :: q2 :: q3 :: q4 :: (l ++ (T ++ p4 :: rest)) := fun x hx => .tail _ (.tail _ (.tail _ (.tail _ (List.mem_append.mpr (.inl hx)))))
  rcases hp with _ | ⟨_, _ | ⟨_, _ | ⟨_, _ | ⟨_, h⟩⟩⟩⟩
  · exact e _ h1
  · exact e _ h2
  · exact e _ h3
  · exact .tail _ (.tail _ (.tail _ (.tail _ (List.mem_append.mpr (.inr (List.mem_append.mpr (.inr (.head _))))))))
  · exact h
end Mine
namespace Mine
local macro_rules | `(tactic| k_room) => `(tactic| ((try simp only [depth_under_make, depth_under_kw, depth_in1, depth_deeper, depth_caller] at *); (try dsimp only [ktrTop] at *); (simp only [recursionLimit] at *); omega))
local macro_rules | `(tactic| walk_at "enter own") => `(tactic| (refine' code_def ?k1 ?k2 ?k3 ?k4 ?k5 ?kA ?kF ?kK ?k6 ?k7 ?k8 ?k9 ?kB ?_ ?c2 ?c3 ?c4 ?c5; (case kA => exact rfl); (case kF => exact rfl); (case kK => assumption); (case k1 => k_asm); (case k2 => k_asm); (case k3 => k_asm); (case k4 => k_asm); (case k5 => k_asm); (case k6 => k_is); (case k7 => k_is); (case k8 => ktr_room); (case k9 => first | exact BindsTo.of_eq rfl | exact binds_K (by k_in) rfl (by k_is) rfl rfl rfl); (case c5 => decide); (case kB => exact locs rfl); (case c2 => exact rfl); (case c3 => exact rfl); (case c4 => exact rfl); k_whole; intro g' L' h' FG' F' N' B' X' T'; (try dsimp only); (try k_fold)))
local macro_rules | `(tactic| walk_at "call builtin:len") => `(tactic| (k_here; (with_reducible show wpAny _ _ (call (Value.builtin "len") [Value.ref _]) _ _ _); k_dflt (refine' lenAny ?k1 ?k2 ?k4 ?_; (case k1 => k_asm); (case k2 => k_mem); (case k4 => omega); k_whole)))

local macro_rules | `(tactic| walk_at "subscriptTail") => `(tactic| (k_here; (with_reducible show wpAny _ _ (subscriptTail _ _ (Value.ref _) (Value.int (Nat.cast _) _)) _ _ _); k_dflt (refine' itemAt ?N ?m ?x ?z ?_ ?s; (case N => k_asm); (case m => k_mem); (case x => assumption); (case z => omega); (case s => with_unfolding_all rfl))))
local macro_rules | `(tactic| walk_at "compareOp LtE str str") => `(tactic| (k_dflt (refine leWord ?_)))
local macro_rules | `(tactic| walk_at "subscriptTail Name Slice ref ref") => `(tactic| (k_here; (with_reducible show wpAny _ _ (subscriptTail _ (PySem.Expr.Slice _ _ none _) (Value.ref _) (Value.ref _)) _ _ _); k_dflt (refine' sliceAny ?F ?N ?l ?p ?q ?_ ?s ?t ?z; (case F => k_asm); (case N => k_asm); (case l => k_mem); (case p => kmk_part); (case q => kmk_part); (case s => with_unfolding_all rfl); (case t => kmk_pure); (case z => omega)); intro D' h' F' N' l1; (try k_lt l1); (try k_sweep)))
local macro_rules | `(tactic| walk_at "compareOp NotEq ref ref") => `(tactic| (k_dflt (refine' neWords ?N ?ma ?mb ?u ?v ?c ?mu ?_; (case N => k_asm); (case ma => k_mem); (case mb => k_mem); (case u => assumption); (case v => assumption); (case c => assumption); (case mu => assumption))))
local macro_rules | `(tactic| walk_at "compareOp Eq ref ref") => `(tactic| (k_dflt (refine' eqWords ?N ?ma ?mb ?u ?v ?c ?mu ?_; (case N => k_asm); (case ma => k_mem); (case mb => k_mem); (case u => assumption); (case v => assumption); (case c => assumption); (case mu => assumption))))
/-- the contract of an ordered part -/
def LoAt (w : World) (p : Program) (loose : List Str) (mean : ExcName → Option Value) (mg mb : Str → Option Value) (n : Nat) : Prop :=
  ∀ (l l2 : Lv) (r : List Lv) (T rest : List (Addr × Obj)) (Z : List Dm) (q : List (Nat × Nat)) (b : Nat) (tb tn : Tok),
    Bnd Z → 1 ≤ n → Sep (led w (l :: l2 :: r) ++ (T ++ rest)) → Geo T Z (l :: l2 :: r) ((b, n) :: q) →
    Tri w p loose mean mg mb 278 [.ref l.v, .ref (lastV (l :: l2 :: r)), .int b tb, .int n tn] (led w (l :: l2 :: r) ++ (T ++ rest)) (40 + 10 * r.length + 20 * n) (200 + 50 * r.length + 100 * n) (loPost w (l :: l2 :: r) T rest Z q b n)

theorem lo_step (w : World) (p : Program) (loose : List Str) (mean : ExcName → Option Value) (mg mb : Str → Option Value) (n : Nat) (hn : 2 ≤ n) (ih : ∀ k, k < n → LoAt w p loose mean mg mb k) : LoAt w p loose mean mg mb n := by
  intro l l2 r T rest Z q b tb tn hB h1 hsep hG
  obtain ⟨v, dv, d, it, off, t1, t2, t3, t4, to, xs, nd, ys, ni⟩ := l
  obtain ⟨b2, n2, q2, rfl⟩ : ∃ b2 n2 q2, q = (b2, n2) :: q2 := by
    cases q with
    | nil => simp [Geo] at hG
    | cons x q2 => exact ⟨x.1, x.2, q2, rfl⟩
  have hG2 := hG
  simp only [Geo] at hG
  obtain ⟨hH, hoff, hb2, hbn, hG'⟩ := hG
  have hZl : b + n ≤ Z.length := (geo_holds hG2).2
  have hlen : xs.length = n := by have := hH.xs.len; dsimp only at this; rw [this, List.length_take, List.length_drop]; omega
  have hlen2 : ys.length = n := by have := hH.ys.len; dsimp only at this; rw [this, List.length_take, List.length_drop]; omega
  have hz : n ≤ 50 := by have := hB.1; omega
  have hWd : Words xs (((Z.drop b).take n).map (·.1)) := words_of hH.xs
  obtain ⟨hf, hh, hf1, hf2⟩ : ∃ hf : Nat, (n : Int).fdiv 2 = (hf : Int) ∧ 1 ≤ hf ∧ hf < n := ⟨n / 2, by rw [Int.fdiv_eq_ediv_of_nonneg _ (by omega)]; omega, by omega, by omega⟩
  unfold Tri
  generalize hvw : lastV _ = vw
  rw [led_cons] at hsep ⊢
  simp only [List.cons_append] at hsep ⊢
  k_fill
  intro dp un gd cn cs aa ccd cl outer A₀ base h₀ L m s Q E B F X N TT hck hd9 hu9 hret
  refine wpAny_call ?_
  k_dflt (walk_at "enter own")
  k_with_none
  k_steps
  · exfalso; omega
  rename News _ _ _ _ => N9
  rename Fr _ _ _ (fun _ => _) => F9
  refine sortedStr F9 N9 (by k_mem) hWd (by omega) (by omega) ?_
  intro D9 c9 h9 p9 F9' N9' hlt9 hperm9 hpw9
  clear F9 N9
  generalize hws : (p9.map fun i => xs.getD i Value.none) = ws at N9'
  have hS9 := Sep.cons hsep (o := listOf ws.toArray c9) hlt9
  rw [hh]
  have hS0 : Sep (led w (⟨v, dv, d, it, off, t1, t2, t3, t4, to, xs, nd, ys, ni⟩ :: l2 :: r) ++ (T ++ ((D9, listOf ws.toArray c9) :: rest))) := by
    refine Sep.perm hS9 ?_
    rw [led_cons]
    exact permIns
  have hvw0 : lastV (l2 :: r) = vw := hvw
  clear hvw
  k_with "call ref" => (
    (with_reducible show wpAny _ _ (call (Value.ref 184) _) _ _ _)
    k_dflt (
    rename News _ _ _ _ => N9
    refine tri_use (popC w p loose mean mg mb r3 ⟨v, dv, d, it, off, t1, t2, t3, t4, to, xs3, nd3, ys3, ni3⟩ kk _ _ (T3 ++ ((D9, listOf ws.toArray c9) :: (rest ++ own2))) hS6 (geo_popOk hBz hG5 hkn) (by dsimp only; omega)) (by k_asm) (by k_asm) (by k_asm) (newsSub N9 (by rw [led_cons]; exact fun _ hp => hp)) (by k_asm) rfl (by dsimp only [ktrTop] at *; omega) (by dsimp only [ktrTop] at *; omega) ?_
    intro r9 n9 h9 tk9 hp9 F9 N9'
    obtain ⟨e1, e2⟩ := hp9
    subst e2
    rw [hxk] at e1
    cases e1
    rw [show popL (⟨v, dv, d, it, off, t1, t2, t3, t4, to, xs3, nd3, ys3, ni3⟩ :: r3) kk = ⟨v, dv, d, it, off, t1, t2, t3, t4, to, xs3.eraseIdx kk, nd3 + 1, ys3.eraseIdx kk, ni3 + 1⟩ :: popL r3 (kk + off.toNat) from rfl, led_cons] at N9'
    simp only [List.cons_append] at N9'
    clear N9
    (try dsimp only)
    (try k_fold)))
  k_with "call ref" => (
    (with_reducible show wpAny _ _ (call (Value.ref 176) _) _ _ _)
    k_dflt (
    rename News _ _ _ _ => N9
    have hS7 : Sep (led w (⟨v, dv, d, it, off, t1, t2, t3, t4, to, xs3.eraseIdx kk, nd3 + 1, ys3.eraseIdx kk, ni3 + 1⟩ :: popL r3 (kk + off.toNat)) ++ (T3 ++ ((D9, listOf ws.toArray c9) :: (rest ++ own2)))) :=
      sepPop kk hS6
    have hpl := popL_len r3 (kk + off.toNat)
    refine tri_use (insC w p loose mean mg mb ⟨#[z9.2.1]⟩ tu (.int z9.2.2 tu') (.str ⟨#[z9.1]⟩ tz) (popL r3 (kk + off.toNat)) ⟨v, dv, d, it, off, t1, t2, t3, t4, to, xs3.eraseIdx kk, nd3 + 1, ys3.eraseIdx kk, ni3 + 1⟩ p5 _ (T3 ++ ((D9, listOf ws.toArray c9) :: (rest ++ own2))) hS7 (geo_insOk hBz hG5 hn hkn hp5)) (by k_asm) (by k_asm) (by k_asm) (newsSub N9 (by rw [led_cons]; exact fun _ hp => hp)) (by k_asm) rfl (by dsimp only [ktrTop] at *; omega) (by dsimp only [ktrTop] at *; omega) ?_
    intro r9 n9 h9 tk9 hp9 F9 N9'
    obtain ⟨as, hla, e2, hS8⟩ := hp9
    subst e2
    clear N9
    (try dsimp only)
    (try k_fold)))
  k_with "exec While BoolOp cons nil" => (
    k_dflt (
    rename News _ _ _ _ => N9
    rename Fr _ _ _ (fun _ => _) => F9
    refine' whilePlace (kk := kk) (fun p => ∀ j y, j < p → (((Zc Z S2 b n i9 Lc).drop b).take n)[j]? = some y → keyZ y ≤ keyZ z9) F9 N9 ?h0 ?hp ?turn ?hE
    case h0 => exact rfl
    case hp => intro j y hj; exact absurd hj (Nat.not_lt_zero _)
    case hE => first | passes_own | with_unfolding_all passes_own
    case turn =>
      intro p5 t5 h5 tk5 hp5 hP5 F9' N9'
      clear F9 N9
      obtain ⟨y5, hy5, ⟨ty5, hx5⟩, -⟩ := holds_at (geo_holds hG5).1 (i := p5) (by rw [List.length_take, List.length_drop]; omega)
      dsimp only at hx5
      k_steps
      · rename News _ _ _ _ => N9
        rename Fr _ _ _ (fun y => _) => F9
        refine ⟨_, _, _, rfl, fr_over F9, N9, by omega, ?_⟩
        intro j y hj hy
        by_cases e : j = p5
        · subst e
          rw [hy5] at hy
          cases hy
          assumption
        · exact hP5 j y (by omega) hy
      · rename News _ _ _ _ => N9
        rename Fr _ _ _ (fun y => _) => F9
        have hlt9 : keyZ z9 < keyZ y5 := by rename ¬ (_ : Nat) ≤ _ => hn9; exact Nat.lt_of_not_le hn9
        refine unpackN_ F9 N9 (News.isTup N9 (List.Mem.tail _ (List.Mem.tail _ (List.Mem.tail _ (List.Mem.tail _ (List.mem_append.mpr (Or.inr (List.mem_append.mpr (Or.inl haz))))))))) rfl rfl rfl ?_
        intro h' F' N'
        clear N9 F9
        k_steps
        all_goals (
          rename News _ _ _ _ => N9
          rename Fr _ _ _ (fun y => _) => F9
          refine InvEndG.intro F9 N9 (lo_end_move hZl hS1l hS2l hss3 hkk hkn hp5 hz9 hP5 ⟨y5, hy5, hlt9⟩ ⟨tz, rfl⟩ (by rw [hla, popL_len]) hS8 hsm3 hT3 hG5 ?_) (sep_off (sepReO3 hS8) how) subA3 (subO3 how)
          intro z hz
          obtain ⟨a1, a2, a3, a4, a5⟩ := names_off hz
          simp only [a1, a2, a3, a4, a5, hz, if_false, Bool.false_eq_true])
      · rename News _ _ _ _ => N9
        rename Fr _ _ _ (fun y => _) => F9
        have hpk : p5 = kk := by omega
        rw [← List.cons_append, ← List.cons_append, ← List.cons_append, ← List.cons_append, ← led_cons w ⟨v, dv, d, it, off, t1, t2, t3, t4, to, xs3, nd3, ys3, ni3⟩ r3] at N9
        refine InvEndG.intro F9 N9 (lo_end_stay hZl hS1l hS2l hss3 hkk hkn hpk hz9 hP5 hS6 hsm3 hT3 hG5 ?_) (sep_off (sepReO hS6) how) subA2 (subO2 how)
        intro z hz
        obtain ⟨a1, a2, a3, a4, a5⟩ := names_off hz
        simp only [a1, a2, a3, a4, a5, hz, if_false, Bool.false_eq_true]
    ))
  k_with "pyIter ref" => (
    k_dflt (
    have hl4 := geo_len hG4
    have hl1 := geo_len hG3
    have hb1 := (bnd_seg hB (by omega) hss1).1
    have hS1l := (bnd_seg hB (by omega) hss1).2
    have hS2l := (bnd_seg hb1 (by omega) hss2).2
    have hst := zc_start (Z := Z) (S1 := S1) (S2 := S2) hZl hf2 hS1l hS2l
    rw [hst.1] at hG4
    rename News _ _ _ _ => N9
    rename Fr _ _ _ (fun _ => _) => F9
    rename IsRange _ _ _ _ _ _ _ _ => hR9
    refine loopR (n := n - hf) (LoJ w v dv d it off t1 t2 t3 t4 to r2 T2 (D9, listOf ws.toArray c9) rest Z S1 S2 b n ((b2, n2) :: q2) _) rfl hR9 ?sm ?sz F9 (newsSub N9 (by rw [led_cons]; exact fun _ hp => hp)) ⟨xs2, nd2, ys2, ni2, r2, T2, S1, rfl, hS4, Same.refl _, fun _ hp => hp, by rw [List.take_zero, List.append_nil]; exact SS.refl hss1.asc, hG4, fun _ _ => rfl⟩ ?turn ?done
    case sm => exact small_one (by omega) (by omega) (by omega) (by omega)
    case sz => exact rangeSz (by omega)
    case done =>
      clear hS0 hS9 hc1o hc1x hc1y hSc1 hc2o hc2x hc2y hSc2 hl4 N9 F9 hR9 hS3 hS4 hlt9 hsep hG3 hG4
      intro m9 nx9 h9 tk9 hJ9 F9' N9
      unfold LoJ at hJ9
      obtain ⟨xs3, nd3, ys3, ni3, r3, T3, Lc, enx, hS5, hsm3, hT3, hss3, hG5, hm9⟩ := hJ9
      subst enx
      have F9 := fr_names0 F9' hm9
      clear F9'
      rw [led_cons] at N9
      simp only [List.cons_append] at N9
      have hl5 := geo_len hG5
      dsimp only at hl5
      have hLl : Lc.length = n := by rw [hss3.perm.length_eq, List.length_append, List.length_take]; omega
      rw [List.take_of_length_le (by omega)] at hss3
      rw [hst.2.1] at hss2
      have hSS : SS keyZ ((Z.drop b).take n) Lc := by rw [hst.2.2]; exact SS.trans2 hss1 hss2 hss3
      have hd0 : S2.drop (n - hf) = [] := List.drop_of_length_le (by omega)
      have hZe : Zc Z S2 b n (n - hf) Lc = Z.take b ++ Lc ++ Z.drop (b + n) := by unfold Zc; rw [hd0, List.append_nil]
      have hseg : ((Zc Z S2 b n (n - hf) Lc).drop b).take n = Lc := by rw [zc_seg hZl (by omega), hd0, List.append_nil]
      have hW3 : Words xs3 (Lc.map (·.1)) := by
        have h := words_of (geo_holds hG5).1.xs
        rw [hseg] at h
        exact h
      have hWs : Words ws (Lc.map (·.1)) := by
        have h := words_pick hWd p9 (fun i hi => by simpa using hperm9.mem_iff.mp hi)
        rw [hws, (sorted_codes hperm9 hpw9).uniq (ss_map hSS)] at h
        exact h
      have hbc : ∀ c ∈ Lc.map (·.1), c < 128 := by
        intro c hc
        obtain ⟨y, hy, rfl⟩ := List.mem_map.mp hc
        exact (hB.2 y (List.mem_of_mem_drop (List.mem_of_mem_take (hSS.perm.mem_iff.mp hy)))).1
      have hsmA : Same (l2 :: r) r3 := (hsm1.trans hsm2).trans hsm3
      have hvw3 : lastV r3 = vw := (lastV_same hsmA).trans hvw0
      have hGt : Geo T3 (Zc Z S2 b n (n - hf) Lc) r3 ((b2, n2) :: q2) := by
        obtain ⟨l4, r4, e4, _, _⟩ := same_cons hsmA
        subst e4
        exact geo_tail hG5
      obtain ⟨dvw, dw, iw, u1, u2, u3, u4, wx, nw, wy, niw, hw1, hw2, hw3, -, hwx, -⟩ := led_last (w := w) hGt
      rw [hvw3] at hw1
      have hwl : wx.length = Z.length := by rw [hwx.len, zc_len hZl (by rw [hss3.perm.length_eq, List.length_append]; omega)]
      have hB1 := hB.1
      have hWp : Words (kms_pick wx (some (b : Int)) (some ((b : Int) + (n : Int)))) (Lc.map (·.1)) := by
        rw [pickRun2 wx b n (by omega)]
        have h := words_of ((hwx.drop b).take n)
        rw [hseg] at h
        exact h
      have hun9 : un + 3 + 64 < cLine := by omega
      replace N9 := newsSub N9 (l' := (vw, instObj 266 dvw) :: (dvw, vDict w dw iw .none .none u1 u2 u3 u4) :: (dw, listOf wx.toArray nw) :: (D9, listOf ws.toArray c9) :: (v, instObj 266 dv) :: (dv, vDict w d it (parOf r3) (offOf ⟨v, dv, d, it, off, t1, t2, t3, t4, to, xs3, nd3, ys3, ni3⟩ r3) t1 t2 t3 t4) :: (d, listOf xs3.toArray nd3) :: (it, listOf ys3.toArray ni3) :: (led w r3 ++ (T3 ++ (D9, listOf ws.toArray c9) :: rest))) (subDone hw1 hw2 hw3)
      clear hWd hperm9 hpw9 hss1 hss2 hss3 hst hsm1 hsm2 hsm3 hwx hG2 hd0 hB hH ih hG' hS1l hS2l hGt hl5 hvw0 hw1 hw2 hw3
      k_steps
      rename News _ _ _ _ => N9
      rename Fr _ _ _ _ => F9
      refine hret _ (led w (⟨v, dv, d, it, off, t1, t2, t3, t4, to, xs3, nd3, ys3, ni3⟩ :: r3) ++ (T3 ++ rest)) _ _ ⟨rfl, ⟨v, dv, d, it, off, t1, t2, t3, t4, to, xs3, nd3, ys3, ni3⟩ :: r3, T3, Lc, rfl, sepMid hS5, Same.cons rfl hsmA, fun p hp => hT3 p (hT2 p (hT1 p hp)), hSS, by rw [← hZe]; exact hG5⟩ F9 (newsSub N9 ?_)
      rw [led_cons]
      exact fun p hp => .tail _ (.tail _ (.tail _ (.tail _ (subEnd p hp))))
    case turn =>
      clear hS0 hS9 hc1o hc1x hc1y hSc1 hc2o hc2x hc2y hSc2 hl4 N9 F9 hR9 hS3 hS4 hlt9 hsep hG3 hG4 hG2 hret
      intro i9 t9 m9 nx9 h9 tk9 own9 hi9 hoff9 hJ9 F9' N9'
      unfold LoJ at hJ9
      obtain ⟨xs3, nd3, ys3, ni3, r3, T3, Lc, enx, hS5, hsm3, hT3, hss3, hG5, hm9⟩ := hJ9
      subst enx
      obtain ⟨own2, how, hS6⟩ := news_dedup N9' hoff9 hS5
      have N9 := newsSub N9' (l' := (led w (⟨v, dv, d, it, off, t1, t2, t3, t4, to, xs3, nd3, ys3, ni3⟩ :: r3) ++ (T3 ++ ((D9, listOf ws.toArray c9) :: rest))) ++ own2) (fun p hp => (List.mem_append.mp hp).elim (fun h => List.mem_append.mpr (.inl h)) fun h => List.mem_append.mpr (.inr ((how p).mp h)))
      simp only [List.append_assoc, List.cons_append] at N9 hS6
      rw [led_cons] at N9
      simp only [List.cons_append] at N9
      have F9 := fr_names F9' hm9
      clear N9' F9'
      obtain ⟨kk, hkk⟩ : ∃ kk : Nat, kk = hf + i9 := ⟨_, rfl⟩
      rw [show (hf : Int) + (i9 : Int) = (kk : Int) by omega] at F9
      have hl5 := geo_len hG5
      dsimp only at hl5
      have hkn : kk < n := by omega
      have hlr3 : r3.length = r.length + 1 := by
        have a1 := same_len hsm1
        have a2 := same_len hsm2
        have a3 := same_len hsm3
        simp only [List.length_cons] at a1
        omega
      have hBz : (Zc Z S2 b n i9 Lc).length ≤ 50 := by
        have := hB.1
        rw [zc_len hZl (by rw [hss3.perm.length_eq, List.length_append, List.length_take]; omega)]
        exact this
      have hLl : Lc.length = hf + i9 := by rw [hss3.perm.length_eq, List.length_append, List.length_take]; omega
      obtain ⟨z9, hz9, ⟨tz, hxk⟩, az, tu, tu', hyk, haz⟩ := holds_at (geo_holds hG5).1 (i := kk) (by rw [List.length_take, List.length_drop]; omega)
      dsimp only at hxk hyk
      k_steps
    ))
  k_with "call ref" => (
    (with_reducible show wpAny _ _ (call (Value.ref 278) _) _ _ _); rename News _ _ _ _ => N9
    k_dflt (
    have HL := ih hf (by omega) c1 ⟨v, dv, d, it, off, t1, t2, t3, t4, to, xs, nd, ys, ni⟩ (l2 :: r) T ((D9, listOf ws.toArray c9) :: rest) Z ((b, n) :: (b2, n2) :: q2) b tb
    rw [show lastV (c1 :: ⟨v, dv, d, it, off, t1, t2, t3, t4, to, xs, nd, ys, ni⟩ :: l2 :: r) = vw from hvw0] at HL
    k_dflt (refine tri_use (HL _ hB (by omega) hSc1 (geo_child hG2 (Nat.zero_le _) (by omega) hc1o hc1x hc1y)) (by k_asm) (by k_asm) (by k_asm) N9 (by k_asm) rfl (by simp only [List.length_cons]; dsimp only [ktrTop] at *; omega) (by simp only [List.length_cons]; dsimp only [ktrTop] at *; omega) ?_)
    intro r9 n9 h9 tk9 hp9 F9 N9'
    obtain ⟨e1, xs1, nd1, ys1, ni1, r1, T1, S1, hsm1, hT1, hss1, hG3, hS3, hsub⟩ := loPost_child hp9
    replace N9 := newsSub N9' hsub
    clear hsub N9'
    subst e1
    rw [led_cons] at N9
    simp only [List.cons_append] at N9
    (try dsimp only)
    (try k_fold)))
  k_with "call ref" => (
    (with_reducible show wpAny _ _ (call (Value.ref 125) _) _ _ _); rename News _ _ _ _ => N9
    k_dflt (
    have hl1 := geo_len hG3
    dsimp only at hl1
    refine tri_use (partC w p loose mean mg mb r1 ⟨v, dv, d, it, off, t1, t2, t3, t4, to, xs1, nd1, ys1, ni1⟩ hf n _ _ (T1 ++ ((D9, listOf ws.toArray c9) :: rest)) hS3 (by omega) (by dsimp only; omega) (by dsimp only; omega) (by dsimp only; omega)) (by k_asm) (by k_asm) (by k_asm) (newsSub N9 (by rw [led_cons]; exact fun _ hp => hp)) (by k_asm) rfl (by dsimp only [ktrTop] at *; omega) (by dsimp only [ktrTop] at *; omega) ?_
    intro r9 n9 h9 tk9 hp9 F9 N9'
    unfold partPost at hp9
    obtain ⟨c2, e1, hc2o, hc2x, hc2y, e2, hSc2⟩ := hp9
    subst e1 e2
    clear N9
    (try dsimp only)
    (try k_fold)))
  k_with "call ref" => (
    (with_reducible show wpAny _ _ (call (Value.ref 278) [_, _, .int (_ + _) _, _]) _ _ _); rename News _ _ _ _ => N9
    k_dflt (
    have hl1 := geo_len hG3
    have hlr := same_len hsm1
    have hb1 := (bnd_seg hB (by omega) hss1).1
    have hvw1 : lastV (c2 :: ⟨v, dv, d, it, off, t1, t2, t3, t4, to, xs1, nd1, ys1, ni1⟩ :: r1) = vw := (lastV_same (Same.cons (a := ⟨v, dv, d, it, off, t1, t2, t3, t4, to, xs, nd, ys, ni⟩) (a' := ⟨v, dv, d, it, off, t1, t2, t3, t4, to, xs1, nd1, ys1, ni1⟩) rfl hsm1)).trans hvw0
    rw [show (b : Int) + (hf : Int) = ((b + hf : Nat) : Int) by omega, show (n : Int) - (hf : Int) = ((n - hf : Nat) : Int) by omega]
    have HL := fun tb9 => ih (n - hf) (by omega) c2 ⟨v, dv, d, it, off, t1, t2, t3, t4, to, xs1, nd1, ys1, ni1⟩ r1 T1 ((D9, listOf ws.toArray c9) :: rest) (Z.take b ++ S1 ++ Z.drop (b + hf)) ((b, n) :: (b2, n2) :: q2) (b + hf) tb9
    rw [hvw1] at HL
    refine tri_use (HL _ _ hb1 (by omega) hSc2 (geo_child hG3 (by omega) (Nat.le_refl _) hc2o hc2x hc2y)) (by k_asm) (by k_asm) (by k_asm) N9 (by k_asm) rfl (by simp only [List.length_cons] at *; dsimp only [ktrTop] at *; omega) (by simp only [List.length_cons] at *; dsimp only [ktrTop] at *; omega) ?_
    intro r9 n9 h9 tk9 hp9 F9 N9'
    obtain ⟨e1, xs2, nd2, ys2, ni2, r2, T2, S2, hsm2, hT2, hss2, hG4, hS4, hsub⟩ := loPost_child hp9
    replace N9 := newsSub N9' hsub
    clear hsub N9'
    subst e1
    rw [led_cons] at N9
    simp only [List.cons_append] at N9
    (try dsimp only)
    (try k_fold)))
  k_with "call ref" => (
    (with_reducible show wpAny _ _ (call (Value.ref 125) [_, .int 0 _, _]) _ _ _); rename News _ _ _ _ => N9
    k_dflt (refine tri_use (partC w p loose mean mg mb (l2 :: r) ⟨v, dv, d, it, off, t1, t2, t3, t4, to, xs, nd, ys, ni⟩ 0 hf _ _ (T ++ ((D9, listOf ws.toArray c9) :: rest)) hS0 (by omega) (by dsimp only; omega) (by dsimp only; omega) (by dsimp only; omega)) (by k_asm) (by k_asm) (by k_asm) (newsSub N9 ?_) (by k_asm) rfl (by dsimp only [ktrTop] at *; omega) (by dsimp only [ktrTop] at *; omega) ?_)
    · rw [led_cons]; exact memShuf
    intro r9 n9 h9 tk9 hp9 F9 N9'
    unfold partPost at hp9
    obtain ⟨c1, e1, hc1o, hc1x, hc1y, e2, hSc1⟩ := hp9
    subst e1 e2
    clear N9
    (try dsimp only)
    (try k_fold))
  k_steps
end Mine
namespace Mine
local macro_rules | `(tactic| k_room) => `(tactic| ((try simp only [depth_under_make, depth_under_kw, depth_in1, depth_deeper, depth_caller] at *); (try dsimp only [ktrTop] at *); (simp only [recursionLimit] at *); omega))
local macro_rules | `(tactic| walk_at "enter own") => `(tactic| (refine' code_def ?k1 ?k2 ?k3 ?k4 ?k5 ?kA ?kF ?kK ?k6 ?k7 ?k8 ?k9 ?kB ?_ ?c2 ?c3 ?c4 ?c5; (case kA => exact rfl); (case kF => exact rfl); (case kK => assumption); (case k1 => k_asm); (case k2 => k_asm); (case k3 => k_asm); (case k4 => k_asm); (case k5 => k_asm); (case k6 => k_is); (case k7 => k_is); (case k8 => ktr_room); (case k9 => first | exact BindsTo.of_eq rfl | exact binds_K (by k_in) rfl (by k_is) rfl rfl rfl); (case c5 => decide); (case kB => exact locs rfl); (case c2 => exact rfl); (case c3 => exact rfl); (case c4 => exact rfl); k_whole; intro g' L' h' FG' F' N' B' X' T'; (try dsimp only); (try k_fold)))
local macro_rules | `(tactic| walk_at "call builtin:len") => `(tactic| (k_here; (with_reducible show wpAny _ _ (call (Value.builtin "len") [Value.ref _]) _ _ _); k_dflt (refine' lenAny ?k1 ?k2 ?k4 ?_; (case k1 => k_asm); (case k2 => k_mem); (case k4 => omega); k_whole)))
local macro_rules | `(tactic| walk_at "subscriptTail Name Slice ref ref") => `(tactic| (k_here; (with_reducible show wpAny _ _ (subscriptTail _ (PySem.Expr.Slice _ _ none _) (Value.ref _) (Value.ref _)) _ _ _); k_dflt (refine' sliceAny ?F ?N ?l ?p ?q ?_ ?s ?t ?z; (case F => k_asm); (case N => k_asm); (case l => k_mem); (case p => kmk_part); (case q => kmk_part); (case s => with_unfolding_all rfl); (case t => kmk_pure); (case z => omega)); intro D' h' F' N' l1; (try k_lt l1); (try k_sweep)))
local macro_rules | `(tactic| walk_at "compareOp Eq ref ref") => `(tactic| (k_dflt (refine' eqWords ?N ?ma ?mb ?u ?v ?c ?mu ?_; (case N => k_asm); (case ma => k_mem); (case mb => k_mem); (case u => assumption); (case v => assumption); (case c => assumption); (case mu => assumption))))
theorem subOne {α : Type} {p1 p2 p3 : α} {l R : List α} (h1 : p1 ∈ l) (h2 : p2 ∈ l) (h3 : p3 ∈ l) : ∀ p ∈ p1 :: p2 :: p3 :: (l ++ R), p ∈ l ++ R := by
  intro p hp
  rcases hp with _ | ⟨_, _ | ⟨_, _ | ⟨_, h⟩⟩⟩
  · exact List.mem_append.mpr (.inl h1)
  · exact List.mem_append.mpr (.inl h2)
  · exact List.mem_append.mpr (.inl h3)
  · exact h
theorem lo_one (w : World) (p : Program) (loose : List Str) (mean : ExcName → Option Value) (mg mb : Str → Option Value) (n : Nat) (hn : n = 1) : LoAt w p loose mean mg mb n := by
  intro l l2 r T rest Z q b tb tn hB h1 hsep hG
  obtain ⟨v, dv, d, it, off, t1, t2, t3, t4, to, xs, nd, ys, ni⟩ := l
  have hH := (geo_holds hG).1
  have hZl := (geo_holds hG).2
  have hlen : xs.length = n := by have := hH.xs.len; dsimp only at this; rw [this, List.length_take, List.length_drop]; omega
  have hWd : Words xs (((Z.drop b).take n).map (·.1)) := words_of hH.xs
  have hbc : ∀ c ∈ ((Z.drop b).take n).map (·.1), c < 128 := by
    intro c hc
    obtain ⟨y, hy, rfl⟩ := List.mem_map.mp hc
    exact (hB.2 y (List.mem_of_mem_drop (List.mem_of_mem_take hy))).1
  obtain ⟨dvw, dw, iw, u1, u2, u3, u4, wx, nw, wy, niw, hw1, hw2, hw3, -, hwx, -⟩ := led_last (w := w) hG
  have hwl : wx.length = Z.length := hwx.len
  have hB1 := hB.1
  have hWp : Words (kms_pick wx (some (b : Int)) (some ((b : Int) + (n : Int)))) (((Z.drop b).take n).map (·.1)) := by
    rw [pickRun2 wx b n (by omega)]
    exact words_of ((hwx.drop b).take n)
  have hSS : SS keyZ ((Z.drop b).take n) ((Z.drop b).take n) := SS.small (by rw [List.length_take]; omega)
  have hZe : Z.take b ++ (Z.drop b).take n ++ Z.drop (b + n) = Z := by
    rw [List.append_assoc, ← List.drop_drop, List.take_append_drop, List.take_append_drop]
  unfold Tri
  generalize hvw : lastV _ = vw at hw1 ⊢
  k_fill
  intro dp un gd cn cs aa ccd cl outer A₀ base h₀ L m s Q E B F X N TT hck hd9 hu9 hret
  replace N := newsSub N (l' := (vw, instObj 266 dvw) :: (dvw, vDict w dw iw .none .none u1 u2 u3 u4) :: (dw, listOf wx.toArray nw) :: (led w (⟨v, dv, d, it, off, t1, t2, t3, t4, to, xs, nd, ys, ni⟩ :: l2 :: r) ++ (T ++ rest))) (subOne hw1 hw2 hw3)
  rw [led_cons] at N
  simp only [List.cons_append] at N
  have hun9 : un + 3 + 64 < cLine := by omega
  clear hwx hw1 hw2 hw3
  refine wpAny_call ?_
  k_dflt (walk_at "enter own")
  k_with_none
  k_steps
  · exfalso; omega
  rename News _ _ _ _ => N9
  rename Fr _ _ _ _ => F9
  refine hret _ (led w (⟨v, dv, d, it, off, t1, t2, t3, t4, to, xs, nd, ys, ni⟩ :: l2 :: r) ++ (T ++ rest)) _ _ ⟨rfl, ⟨v, dv, d, it, off, t1, t2, t3, t4, to, xs, nd, ys, ni⟩ :: l2 :: r, T, (Z.drop b).take n, rfl, hsep, Same.refl _, fun p hp => hp, hSS, by rw [hZe]; exact hG⟩ F9 (newsSub N9 ?_)
  rw [led_cons]
  exact fun p hp => .tail _ (.tail _ (.tail _ (.tail _ hp)))
theorem lo_all (w : World) (p : Program) (loose : List Str) (mean : ExcName → Option Value) (mg mb : Str → Option Value) (n : Nat) : LoAt w p loose mean mg mb n := by
  induction n using Nat.strongRecOn with
  | _ n ih =>
    by_cases h : n = 1
    · exact lo_one w p loose mean mg mb n h
    · by_cases h2 : 2 ≤ n
      · exact lo_step w p loose mean mg mb n h2 ih
      · intro l l2 r T rest Z q b tb tn hB h1
        omega
end Mine
namespace Mine
theorem word5 (x : Int) (t : Tok) : ∃ c, c < 128 ∧ Word (.str (Txt.item (Str.ofString "abcde") (x.fmod 5)) t) c := by
  have h0 := Int.fmod_nonneg_of_pos x (b := 5) (by decide)
  have h1 := Int.fmod_lt_of_pos x (b := 5) (by decide)
  have hl : (Str.ofString "abcde").length = 5 := by decide
  rw [item_meets ⟨h0, by rw [hl]; omega⟩]
  refine ⟨_, ?_, _, rfl⟩
  generalize x.fmod 5 = y at h0 h1
  have : y = 0 ∨ y = 1 ∨ y = 2 ∨ y = 3 ∨ y = 4 := by omega
  rcases this with rfl | rfl | rfl | rfl | rfl <;> decide
theorem src2 (x : Int) : ∃ c, c < 128 ∧ Txt.item (Str.ofString "xy") (x.fmod 2) = ⟨#[c]⟩ := by
  have h0 := Int.fmod_nonneg_of_pos x (b := 2) (by decide)
  have h1 := Int.fmod_lt_of_pos x (b := 2) (by decide)
  have hl : (Str.ofString "xy").length = 2 := by decide
  rw [item_meets ⟨h0, by rw [hl]; omega⟩]
  refine ⟨_, ?_, rfl⟩
  generalize x.fmod 2 = y at h0 h1
  have : y = 0 ∨ y = 1 := by omega
  rcases this with rfl | rfl <;> decide
theorem All2.snoc {α β : Type} {P : α → β → Prop} {l : List α} {k : List β} {a : α} {b : β} (h : All2 P l k) (x : P a b) : All2 P (l ++ [a]) (k ++ [b]) := by
  induction h with
  | nil => exact .cons x .nil
  | cons y _ ih => exact .cons y ih
def TupA (T : List (Addr × Obj)) (y : Value) (a : Nat × Int) : Prop := ∃ ad t t', y = Value.ref ad ∧ (ad, tupOf (.str ⟨#[a.1]⟩ t) (.int a.2 t')) ∈ T
theorem TupA.mono {T T' : List (Addr × Obj)} (h : ∀ p ∈ T, p ∈ T') {y : Value} {z : Nat × Int} (x : TupA T y z) : TupA T' y z := by
  obtain ⟨a, t, t', e, m⟩ := x
  exact ⟨a, t, t', e, h _ m⟩
/-- what the comprehension over the items has made by then -/
structure ItJ (news : List (Addr × Obj)) (T : List (Addr × Obj)) (ys : List Value) (as : List (Nat × Int)) : Prop where
  tups : All2 (TupA T) ys as
  small : ∀ a ∈ as, a.1 < 128
  apart : Sep T
  off : ∀ p ∈ T, ∀ q ∈ news, q.1 ≠ p.1
section
variable {prog : Program} {w : World} {A : Around} {h₀ : Heap} {L : Addr} {m : Str → Option Value} {env : Env} {elt : PySem.Expr} {x : Str} {scope : Scope} {cl : List (Str × Addr)} {s s₁ : Shared} {S : List (Addr × Obj) → Prop} {P : Nat → Value → Prop} {Fin : List Value → List (Addr × Obj) → Prop} {news : List (Addr × Obj)}
theorem myRest {n : Nat} {a : Int} (J : Nat → List Value → List (Addr × Obj) → Prop)
    (turn : ∀ i t I oI C oC D m₂ ys nw h tk (E' : Value → Shared → Prop), i < n → J i ys nw → LCg.NsObj oC m₂ → m₂ x = some (.int (a + (i : Int)) t) → Fr h₀ L h m → News h₀ L h ((I, oI) :: (C, oC) :: (D, LCg.lst ys) :: nw) → LCg.Off3 I C D nw → ((@Ne Nat I C) ∧ (@Ne Nat I D) ∧ (@Ne Nat C D)) →
      wpAny (model prog w) A (eval elt (compEnvC scope cl C env)) (LCg.CompEnd h₀ L m { s with heap := h, toks := tk } I oI C oC D (LCg.lst ys) S (fun y news' => J (i + 1) (ys ++ [y]) news')) E' { s with heap := h, toks := tk })
    (fin : ∀ ys nw, J n ys nw → Fin ys nw) : ∀ (j i : Nat) (ys : List Value) (nw : List (Addr × Obj)), i + j = n → J i ys nw → LCg.CompRest prog w A h₀ L m env elt x scope cl s S (fun i v => ∃ t, v = .int (a + (i : Int)) t) Fin j i ys nw := by
  intro j
  induction j with
  | zero =>
    intro i ys nw hi hJ
    have e : i = n := by omega
    subst e
    exact LCg.CompRest.zero (fin _ _ hJ)
  | succ j ih =>
    intro i ys nw hi hJ
    refine LCg.CompRest.succ ?_
    intro v I oI C oC D m₂ h tk E' hv hC hx F N off ne
    obtain ⟨t, e⟩ := hv
    rw [e] at hx
    refine wpAny_mono (turn i t I oI C oC D m₂ ys nw h tk E' (by omega) hJ hC hx F N off ne) (fun y s₂ hq => ?_) fun _ _ e => e
    obtain ⟨h', tk', nw', e, F', N', off', hS, hJ'⟩ := hq
    exact ⟨h', tk', nw', e, F', N', off', hS, ih (i + 1) _ _ (by omega) hJ'⟩
theorem compWords {r : Addr} {b : Int} {t u v : Tok} {n : Nat} {Q : Value → Shared → Prop}
    (hh : A.handled = none) (F : Fr h₀ L s₁.heap m) (N : News h₀ L s₁.heap news) (hr : IsRange s₁.heap r 0 b 1 t u v) (hb : b = (n : Int)) (hn : n ≤ 50)
    (turn : ∀ (i : Nat) t I oI C oC D m₂ ys g h tk (E' : Value → Shared → Prop), i < n → LCg.NsObj oC m₂ → m₂ x = some (.int (i : Int) t) → Fr h₀ L h m → News h₀ L h ((I, oI) :: (C, oC) :: (D, LCg.lst ys) :: news) → LCg.Off3 I C D news → ((@Ne Nat I C) ∧ (@Ne Nat I D) ∧ (@Ne Nat C D)) →
      wpAny (model prog w) A (eval elt (compEnvC scope cl C env)) (LCg.CompEnd h₀ L m { s₁ with heap := h, toks := tk } I oI C oC D (LCg.lst ys) (fun _ => True) (fun y news' => news' = news ∧ ∃ c, c < 128 ∧ Word y c)) E' { ({ s₁ with heap := g } : Shared) with heap := h, toks := tk })
    (fin : ∀ ys cs, Words ys cs → cs.length = n → (∀ c ∈ cs, c < 128) → ∀ D h tk, Fr h₀ L h m → News h₀ L h ((D, listOf ys.toArray ys.length) :: news) → LCg.Off1 D news → Q (.ref D) { s₁ with heap := h, toks := tk }) :
    LCg.CompSrc prog w A h₀ L m env elt x scope cl (fun s₂ => LCg.FinE h₀ L m s₂ Q) (.ref r) s₁ := by
  subst hb
  have hsz : Builtin.Range.rangeSize 0 (n : Int) 1 = ((n : Nat) : Int) := by have := rangeSz (Nat.zero_le n); simpa using this
  have hsm : Builtin.Range.small 0 (n : Int) 1 = true := small_one (by omega) (by omega) (by omega) (by omega)
  refine LCg.CompSrc.range hh F N hr hsm (n := n) hsz (by rw [sizeLine_eq]; omega) fun g => ?_
  refine myRest (n := n) (a := 0) (fun i ys nw => nw = news ∧ ∃ cs, Words ys cs ∧ cs.length = i ∧ ∀ c ∈ cs, c < 128) ?_ ?_ n 0 [] news (by omega) ⟨rfl, [], .nil, rfl, (fun _ h => nomatch h)⟩
  · intro i t I oI C oC D m₂ ys nw h tk E' hi hJ hC hx F2 N2 off ne
    obtain ⟨rfl, cs, hW, hl, hc⟩ := hJ
    rw [Int.zero_add] at hx
    refine wpAny_mono (turn i t I oI C oC D m₂ ys g h tk E' hi hC hx F2 N2 off ne) (fun y s₂ hq => ?_) fun _ _ e => e
    obtain ⟨h', tk', nw', e, F', N', off', hS, e2, c, hc2, hy⟩ := hq
    refine ⟨h', tk', nw', e, F', N', off', hS, e2, cs ++ [c], hW.snoc hy, by simp [hl], fun d hd => ?_⟩
    rcases List.mem_append.mp hd with h | h
    · exact hc d h
    · rw [List.mem_singleton] at h; subst h; exact hc2
  · intro ys nw hJ
    obtain ⟨rfl, cs, hW, hl, hc⟩ := hJ
    intro D h tk F2 N2 off
    exact fin ys cs hW hl hc D h tk F2 N2 off
theorem compItems {r : Addr} {b : Int} {t u v : Tok} {n : Nat} {Q : Value → Shared → Prop}
    (hh : A.handled = none) (F : Fr h₀ L s₁.heap m) (N : News h₀ L s₁.heap news) (hr : IsRange s₁.heap r 0 b 1 t u v) (hb : b = (n : Int)) (hn : n ≤ 50)
    (turn : ∀ (i : Nat) t I oI C oC D m₂ ys T as g h tk (E' : Value → Shared → Prop), i < n → ItJ news T ys as → LCg.NsObj oC m₂ → m₂ x = some (.int (i : Int) t) → Fr h₀ L h m → News h₀ L h ((I, oI) :: (C, oC) :: (D, LCg.lst ys) :: (news ++ T)) → LCg.Off3 I C D (news ++ T) → ((@Ne Nat I C) ∧ (@Ne Nat I D) ∧ (@Ne Nat C D)) →
      wpAny (model prog w) A (eval elt (compEnvC scope cl C env)) (LCg.CompEnd h₀ L m { s₁ with heap := h, toks := tk } I oI C oC D (LCg.lst ys) (fun _ => True) (fun y news' => ∃ T' a, news' = news ++ T' ∧ ItJ news T' (ys ++ [y]) (as ++ [a]))) E' { ({ s₁ with heap := g } : Shared) with heap := h, toks := tk })
    (fin : ∀ ys T as, ItJ news T ys as → as.length = n → ∀ D h tk, Fr h₀ L h m → News h₀ L h ((D, listOf ys.toArray ys.length) :: (news ++ T)) → LCg.Off1 D news → (∀ p ∈ T, p.1 ≠ D) → Q (.ref D) { s₁ with heap := h, toks := tk }) :
    LCg.CompSrc prog w A h₀ L m env elt x scope cl (fun s₂ => LCg.FinE h₀ L m s₂ Q) (.ref r) s₁ := by
  subst hb
  have hsz : Builtin.Range.rangeSize 0 (n : Int) 1 = ((n : Nat) : Int) := by have := rangeSz (Nat.zero_le n); simpa using this
  have hsm : Builtin.Range.small 0 (n : Int) 1 = true := small_one (by omega) (by omega) (by omega) (by omega)
  have hoff : ∀ {D : Addr} {l k : List (Addr × Obj)}, LCg.Off1 D (l ++ k) → LCg.Off1 D l ∧ ∀ p ∈ k, p.1 ≠ D := by
    intro D l k
    induction l with
    | nil =>
      intro h
      refine ⟨trivial, ?_⟩
      induction k with
      | nil => exact fun _ hp => nomatch hp
      | cons a k ih =>
        intro p hp
        rcases List.mem_cons.mp hp with rfl | hp
        · exact h.1
        · exact ih h.2 p hp
    | cons a l ih => intro h; exact ⟨⟨h.1, (ih h.2).1⟩, (ih h.2).2⟩
  refine LCg.CompSrc.range hh F N hr hsm (n := n) hsz (by rw [sizeLine_eq]; omega) fun g => ?_
  refine myRest (n := n) (a := 0) (fun i ys nw => ∃ T as, nw = news ++ T ∧ ItJ news T ys as ∧ as.length = i) ?_ ?_ n 0 [] news (by omega) ⟨[], [], by simp, ⟨.nil, (fun _ h => nomatch h), List.nodup_nil, (fun _ h => nomatch h)⟩, rfl⟩
  · intro i t I oI C oC D m₂ ys nw h tk E' hi hJ hC hx F2 N2 off ne
    obtain ⟨T, as, rfl, hI, hl⟩ := hJ
    rw [Int.zero_add] at hx
    refine wpAny_mono (turn i t I oI C oC D m₂ ys T as g h tk E' hi hI hC hx F2 N2 off ne) (fun y s₂ hq => ?_) fun _ _ e => e
    obtain ⟨h', tk', nw', e, F', N', off', hS, T', a, e2, hI'⟩ := hq
    exact ⟨h', tk', nw', e, F', N', off', hS, T', as ++ [a], e2, hI', by simp [hl]⟩
  · intro ys nw hJ
    obtain ⟨T, as, rfl, hI, hl⟩ := hJ
    intro D h tk F2 N2 off
    exact fin ys T as hI hl D h tk F2 N2 (hoff off).1 (hoff off).2
end
theorem wordEnd {h₀ h' : Heap} {L I C D : Addr} {m : Str → Option Value} {s₁ : Shared} {oI oC oD : Obj} {tk : Nat} {news : List (Addr × Obj)} {e : Int} {t : Tok} (F : Fr h₀ L h' m) (N : News h₀ L h' ((I, oI) :: (C, oC) :: (D, oD) :: news)) (off : LCg.Off3 I C D news) :
    LCg.CompEnd h₀ L m s₁ I oI C oC D oD (fun _ => True) (fun y news' => news' = news ∧ ∃ c, c < 128 ∧ Word y c) (.str (Txt.item (Str.ofString "abcde") (e.fmod 5)) t) { s₁ with heap := h', toks := tk } :=
  LCg.CompEnd.intro F N news (fun _ hp => hp) off trivial ⟨rfl, word5 e t⟩
theorem off3_of {I C D : Addr} {l : List (Addr × Obj)} (h : ∀ p ∈ l, p.1 ≠ I ∧ p.1 ≠ C ∧ p.1 ≠ D) : LCg.Off3 I C D l := LCg.Off3.of h
theorem itemEnd {h₀ h' : Heap} {L I C D D9 : Addr} {m : Str → Option Value} {s₁ : Shared} {oI oC oD : Obj} {tk : Nat} {news T : List (Addr × Obj)} {ys : List Value} {as : List (Nat × Int)} {e z : Int} {t t' : Tok} (F : Fr h₀ L h' m) (N : News h₀ L h' ((D9, tupOf (.str (Txt.item (Str.ofString "xy") (e.fmod 2)) t) (.int z t')) :: (I, oI) :: (C, oC) :: (D, oD) :: (news ++ T))) (off : LCg.Off3 I C D (news ++ T)) (hJ : ItJ news T ys as)
    (hl : AllLt D9 ((I, oI) :: (C, oC) :: (D, oD) :: (news ++ T))) :
    LCg.CompEnd h₀ L m s₁ I oI C oC D oD (fun _ => True) (fun y news' => ∃ T' a, news' = news ++ T' ∧ ItJ news T' (ys ++ [y]) (as ++ [a])) (.ref D9) { s₁ with heap := h', toks := tk } := by
  have hl' := ktn_ltOf hl
  obtain ⟨c, hc, hx⟩ := src2 e
  rw [hx] at N
  refine LCg.CompEnd.intro F N (news ++ ((D9, tupOf (.str ⟨#[c]⟩ t) (.int z t')) :: T)) ?_ ?_ trivial ⟨_, (c, z), rfl, ?_⟩
  · intro p hp
    simp only [List.mem_cons, List.mem_append] at hp ⊢
    rcases hp with h | h | h | h | h | h <;> simp [h]
  · refine LCg.Off3.of fun p hp => ?_
    rcases List.mem_append.mp hp with h | h
    · exact off.mem p (List.mem_append.mpr (.inl h))
    · rcases List.mem_cons.mp h with rfl | h
      · exact ⟨Ne.symm (Nat.ne_of_lt hl.1), Ne.symm (Nat.ne_of_lt hl.2.1), Ne.symm (Nat.ne_of_lt hl.2.2.1)⟩
      · exact off.mem p (List.mem_append.mpr (.inr h))
  · have hm : ∀ p ∈ T, p ∈ (D9, tupOf (.str ⟨#[c]⟩ t) (.int z t')) :: T := fun p hp => .tail _ hp
    refine ⟨All2.snoc (hJ.tups.mono fun _ _ q => q.mono hm) ⟨D9, t, t', rfl, .head _⟩, ?_, ?_, ?_⟩
    · intro a ha
      rcases List.mem_append.mp ha with h | h
      · exact hJ.small a h
      · rw [List.mem_singleton] at h; subst h; exact hc
    · exact Sep.cons hJ.apart fun q hq => hl' q (.tail _ (.tail _ (.tail _ (List.mem_append.mpr (.inr hq)))))
    · intro p hp q hq
      rcases List.mem_cons.mp hp with rfl | hp
      · exact Nat.ne_of_lt (hl' q (.tail _ (.tail _ (.tail _ (List.mem_append.mpr (.inl hq))))))
      · exact hJ.off p hp q hq
theorem ItJ.off' {news T : List (Addr × Obj)} {ys : List Value} {as : List (Nat × Int)} {c : Addr} {o : Obj} (h : ItJ news T ys as) (hm : (c, o) ∈ news) : ∀ p ∈ T, @Ne Nat p.1 c := fun p hp e => h.off p hp _ hm e.symm
theorem pick_all (xs : List Value) : kms_pick xs none none = xs := by
  unfold kms_pick
  simp [kms_lo, kms_hi]
end Mine
namespace Mine
local macro_rules | `(tactic| k_room) => `(tactic| ((try simp only [depth_under_make, depth_under_kw, depth_in1, depth_deeper, depth_caller] at *); (try dsimp only [ktrTop] at *); (simp only [recursionLimit] at *); omega))
local macro_rules | `(tactic| walk_at "call builtin:len") => `(tactic| (k_here; (with_reducible show wpAny _ _ (call (Value.builtin "len") [Value.ref _]) _ _ _); k_dflt (refine' lenAny ?k1 ?k2 ?k4 ?_; (case k1 => k_asm); (case k2 => k_mem); (case k4 => omega); k_whole)))
local macro_rules | `(tactic| walk_at "truthy ref") => `(tactic| (k_here; k_dflt (refine' truthyPos ?N ?l ?p ?z ?_; (case N => k_asm); (case l => k_mem); (case p => omega); (case z => omega))))
local macro_rules | `(tactic| walk_at "call type:list") => `(tactic| (k_here; (with_reducible show wpAny _ _ (call (Value.type _) [Value.ref _]) _ _ _); k_dflt (refine' copyAny ?k1 ?k2 ?k3 ?z ?_; (case k1 => k_asm); (case k2 => k_asm); (case k3 => k_mem); (case z => omega); k_whole); intro D' c' h' F' N' l1; (try k_lt l1); (try k_sweep)))
local macro_rules | `(tactic| walk_at "enter new") => `(tactic| (refine' call_cls ?k1 ?k2 ?k3 ?k4 ?k5 ?k6 ?_; (case k1 => k_asm); (case k2 => k_asm); (case k3 => k_asm); (case k4 => k_is); (case k5 => k_is); (case k6 => k_is); k_whole; intro x' d' h' F' N' l1 l2; (try k_lt l1); (try k_lt2 l2); (try k_sweep); (refine' code_defC ?k1 ?k2 ?k3 ?k4 ?k5 ?kA ?kF ?kK ?k6 ?k7 ?k8 ?k9 ?kB ?kD ?_ ?c2 ?c3 ?c4; (case kA => exact rfl); (case kF => exact rfl); (case kK => assumption); (case k1 => k_asm); (case k2 => k_asm); (case k3 => k_asm); (case k4 => k_asm); (case k5 => k_asm); (case k6 => k_is); (case k7 => k_is); (case k8 => k_room); (case k9 => first | exact BindsTo.of_eq rfl | exact binds_K (by k_in) rfl (by k_is) rfl rfl rfl); (case kB => exact rfl); (case kD => decide +kernel); (case c2 => exact rfl); (case c3 => exact rfl); (case c4 => exact rfl); k_whole; intro g' L' h' tk' cells' FG' F' N' Y' B' X' T' l1; (try k_lt l1); k_cells Y'; (try simp only [List.cons_append, List.nil_append] at N'); (try dsimp only); (try k_lift B'); (try k_fold))))
/-- what the call of the class leaves -/
def newPost (w : World) (a b : Addr) (xs ys : List Value) (ca cb : Nat) (tl : List (Addr × Obj)) (r : Value) (news' : List (Addr × Obj)) : Prop :=
  ∃ (v dv d : Addr) (t1 t2 t3 t4 : Tok) (nd : Nat), r = .ref v ∧ news' = (v, instObj 266 dv) :: (dv, vDict w d b .none .none t1 t2 t3 t4) :: (d, listOf xs.toArray nd) :: (b, listOf ys.toArray cb) :: (a, listOf xs.toArray ca) :: tl ∧
    AllLt v ((b, listOf ys.toArray cb) :: (a, listOf xs.toArray ca) :: tl) ∧ AllLt dv ((b, listOf ys.toArray cb) :: (a, listOf xs.toArray ca) :: tl) ∧ AllLt d ((b, listOf ys.toArray cb) :: (a, listOf xs.toArray ca) :: tl) ∧ (@Ne Nat v dv ∧ @Ne Nat v d ∧ @Ne Nat dv d)
theorem newEnd {w : World} {a b : Addr} {xs ys : List Value} {ca cb : Nat} {tl news9 : List (Addr × Obj)} {h₀ h9 : Heap} {L : Addr} {m : Str → Option Value} {s : Shared} {Q : Value → Shared → Prop} {tk9 : Nat} {x dd D : Addr} {u1 u2 u3 u4 : Tok} {c1 : Nat}
    (hret : ∀ r news' h' tk', newPost w a b xs ys ca cb tl r news' → Fr h₀ L h' m → News h₀ L h' news' → Q r { s with heap := h', toks := tk' })
    (F9 : Fr h₀ L h9 m) (N9 : News h₀ L h9 news9) (hx : (x, instObj 266 dd) ∈ news9) (hd : (dd, vDict w D b .none .none u1 u2 u3 u4) ∈ news9) (hD : (D, listOf xs.toArray c1) ∈ news9)
    (hold : ∀ p ∈ (b, listOf ys.toArray cb) :: (a, listOf xs.toArray ca) :: tl, p ∈ news9) (h1 : dd < x) (h2 : AllLt dd ((b, listOf ys.toArray cb) :: (a, listOf xs.toArray ca) :: tl)) (h3 : AllLt D ((b, listOf ys.toArray cb) :: (a, listOf xs.toArray ca) :: tl)) (h5 : D ≠ x ∧ D ≠ dd) :
    Q (.ref x) { s with heap := h9, toks := tk9 } := by
  refine hret _ ((x, instObj 266 dd) :: (dd, vDict w D b .none .none u1 u2 u3 u4) :: (D, listOf xs.toArray c1) :: (b, listOf ys.toArray cb) :: (a, listOf xs.toArray ca) :: tl) _ _ ⟨x, dd, D, u1, u2, u3, u4, c1, rfl, rfl, allLt_of fun p hp => Nat.lt_trans (ktn_ltOf h2 p hp) h1, h2, h3, Ne.symm (Nat.ne_of_lt h1), Ne.symm h5.1, Ne.symm h5.2⟩ F9 (newsSub N9 ?_)
  intro p hp
  rcases List.mem_cons.mp hp with rfl | hp
  · exact hx
  rcases List.mem_cons.mp hp with rfl | hp
  · exact hd
  rcases List.mem_cons.mp hp with rfl | hp
  · exact hD
  exact hold p hp
theorem newC (w : World) (p : Program) (loose : List Str) (mean : ExcName → Option Value) (mg mb : Str → Option Value) (a b : Addr) (xs ys : List Value) (ca cb : Nat) (tl : List (Addr × Obj))
    (hl : ys.length = xs.length) (h1 : 1 ≤ xs.length) (hz : xs.length ≤ 100) : ∀
    (dp un : Nat) (gd : Option (List Code)) (cn : Str) (cs : Scope) (aa : Addr) (ccd : Value) (cl : List (Str × Addr)) (outer : List Env) (A₀ : Around) (base h₀ : Heap) (L : Addr) (m : Str → Option Value) (s : Shared)
    (Q E : Value → Shared → Prop), Below A₀ base outer h₀ → Fr h₀ L s.heap m → (hd.heap_39 w.params).In h₀ → News h₀ L s.heap ((b, listOf ys.toArray cb) :: (a, listOf xs.toArray ca) :: tl) → Top p loose mean mg mb h₀ → cs.kind = .function → dp + 20 < recursionLimit → un + 100 < cLine →
    (∀ r news' h' tk', newPost w a b xs ys ca cb tl r news' → Fr h₀ L h' m → News h₀ L h' news' → Q r { s with heap := h', toks := tk' }) →
    wpAny (model PySem.Challenge.rw_ft0008_01.row.prog w) (ktrTop dp un gd cn cs L aa ccd cl outer) (call (.ref 266) [.ref a] [(Str.ofString "items", .ref b)]) Q E s := by
  k_fill
  intro dp un gd cn cs aa ccd cl outer A₀ base h₀ L m s Q E B F X N T hck hd9 hu9 hret
  k_with_none
  k_dflt (walk_at "enter new")
  k_steps
  rename News h₀ _ _ _ => N9
  rename Fr h₀ _ _ _ => F9
  refine' newEnd hret F9 N9 ?hx ?hd ?hD ?hold ?h1 ?h2 ?h3 ?h5
  case hx => k_mem
  case hd => k_mem
  case hD => k_mem
  case h1 => exact ltN (by omega)
  case h2 => exact ⟨ltN (by dsimp only; omega), ltN (by dsimp only; omega), by tbn_find⟩
  case h3 => exact ⟨ltN (by dsimp only; omega), ltN (by dsimp only; omega), by tbn_find⟩
  case h5 => exact ⟨neN (by omega), neN (by omega)⟩
  case hold =>
    intro p hp
    simp only [List.mem_cons] at hp ⊢
    grind
end Mine
namespace Mine
local macro_rules | `(tactic| k_room) => `(tactic| ((try simp only [depth_under_make, depth_under_kw, depth_in1, depth_deeper, depth_caller] at *); (try dsimp only [ktrTop] at *); (simp only [recursionLimit] at *); omega))
local macro_rules | `(tactic| walk_at "enter own") => `(tactic| (refine' code_def ?k1 ?k2 ?k3 ?k4 ?k5 ?kA ?kF ?kK ?k6 ?k7 ?k8 ?k9 ?kB ?_ ?c2 ?c3 ?c4 ?c5; (case kA => exact rfl); (case kF => exact rfl); (case kK => assumption); (case k1 => k_asm); (case k2 => k_asm); (case k3 => k_asm); (case k4 => k_asm); (case k5 => k_asm); (case k6 => k_is); (case k7 => k_is); (case k8 => ktr_room); (case k9 => first | exact BindsTo.of_eq rfl | exact binds_K (by k_in) rfl (by k_is) rfl rfl rfl); (case c5 => decide); (case kB => exact locs rfl); (case c2 => exact rfl); (case c3 => exact rfl); (case c4 => exact rfl); k_whole; intro g' L' h' FG' F' N' B' X' T'; (try dsimp only); (try k_fold)))
local macro_rules | `(tactic| walk_at "call builtin:len") => `(tactic| (k_here; (with_reducible show wpAny _ _ (call (Value.builtin "len") [Value.ref _]) _ _ _); k_dflt (refine' lenAny ?k1 ?k2 ?k4 ?_; (case k1 => k_asm); (case k2 => k_mem); (case k4 => omega); k_whole)))
local macro_rules | `(tactic| walk_at "subscriptTail Name Slice ref ref") => `(tactic| (k_here; (with_reducible show wpAny _ _ (subscriptTail _ (PySem.Expr.Slice _ _ none _) (Value.ref _) (Value.ref _)) _ _ _); k_dflt (refine' sliceAny ?F ?N ?l ?p ?q ?_ ?s ?t ?z; (case F => k_asm); (case N => k_asm); (case l => k_mem); (case p => kmk_part); (case q => kmk_part); (case s => with_unfolding_all rfl); (case t => kmk_pure); (case z => omega)); intro D' h' F' N' l1; (try k_lt l1); (try k_sweep)))
local macro_rules | `(tactic| walk_at "truthy ref") => `(tactic| (k_here; k_dflt (refine' truthyPos ?N ?l ?p ?z ?_; (case N => k_asm); (case l => k_mem); (case p => omega); (case z => omega))))
theorem pickFrom (xs : List Value) (n : Nat) (h : n ≤ xs.length) : kms_pick xs (some (n : Int)) none = xs.drop n := by
  unfold kms_pick kms_lo kms_hi
  simp only []
  rw [if_neg (by omega), show min (n : Int).toNat xs.length = n by omega]
  exact List.take_of_length_le (by rw [List.length_drop]; omega)
theorem pickTo (xs : List Value) (n : Nat) (h1 : 1 ≤ n) (h : n ≤ xs.length) : kms_pick xs none (some (-(n : Int))) = xs.take (xs.length - n) := by
  unfold kms_pick kms_lo kms_hi
  simp only []
  rw [if_pos (by omega), show (- -(n : Int)).toNat = n by omega, List.drop_zero, Nat.sub_zero]
def trimPost (w : World) (r : List Lv) (l : Lv) (rest : List (Addr × Obj)) (off : Int) (xs ys : List Value) (u : Value) (news' : List (Addr × Obj)) : Prop :=
  u = .none ∧ ∃ c : Lv, c.v = l.v ∧ c.off = off ∧ c.xs = xs ∧ c.ys = ys ∧ news' = led w (c :: r) ++ rest ∧ Sep news'
theorem sepTrim {v dv d it D I : Addr} {o1 o2 o3 o4 p1 p2 p3 p4 : Obj} {tl : List (Addr × Obj)} (h : Sep ((v, o1) :: (dv, o2) :: (d, o3) :: (it, o4) :: tl)) (h3 : AllLt D ((v, o1) :: (dv, o2) :: (d, o3) :: (it, o4) :: tl)) (h4 : AllLt I ((v, o1) :: (dv, o2) :: (d, o3) :: (it, o4) :: tl)) (h5 : D ≠ I) : Sep ((v, p1) :: (dv, p2) :: (D, p3) :: (I, p4) :: tl) := by
  have g3 := ktn_ltOf h3
  have g4 := ktn_ltOf h4
  have f : ∀ z : Addr, (∀ p ∈ tl, p.1 < z) → z ∉ tl.map Prod.fst := fun z hz hm => by
    obtain ⟨q, hq, e⟩ := List.mem_map.mp hm
    exact absurd e (Nat.ne_of_lt (hz q hq))
  unfold Sep at h ⊢
  simp only [List.map_cons, List.nodup_cons, List.mem_cons, not_or] at h ⊢
  obtain ⟨⟨a1, a2, a3, a4⟩, ⟨b2, b3, b4⟩, c, dd, e⟩ := h
  exact ⟨⟨a1, Nat.ne_of_lt h3.1, Nat.ne_of_lt h4.1, a4⟩, ⟨Nat.ne_of_lt h3.2.1, Nat.ne_of_lt h4.2.1, b4⟩, ⟨h5, f _ fun p hp => g3 p (.tail _ (.tail _ (.tail _ (.tail _ hp))))⟩, f _ fun p hp => g4 p (.tail _ (.tail _ (.tail _ (.tail _ hp)))), e⟩
theorem dvOff {v dv d it v2 dv2 d2 it2 : Addr} {o1 o2 o3 o4 p1 p2 p3 p4 : Obj} {rest : List (Addr × Obj)} (h : Sep ((v, o1) :: (dv, o2) :: (d, o3) :: (it, o4) :: (v2, p1) :: (dv2, p2) :: (d2, p3) :: (it2, p4) :: rest)) :
    (@Ne Nat v dv ∧ @Ne Nat d dv ∧ @Ne Nat it dv ∧ @Ne Nat v2 dv ∧ @Ne Nat dv2 dv ∧ @Ne Nat d2 dv ∧ @Ne Nat it2 dv) ∧ ∀ p ∈ rest, @Ne Nat p.1 dv := by
  unfold Sep at h
  simp only [List.map_cons, List.nodup_cons, List.mem_cons, not_or] at h
  obtain ⟨⟨a1, _⟩, ⟨b1, b2, b3, b4, b5, b6, b7⟩, _⟩ := h
  refine ⟨⟨a1, Ne.symm b1, Ne.symm b2, Ne.symm b3, Ne.symm b4, Ne.symm b5, Ne.symm b6⟩, fun p hp e => b7 (List.mem_map.mpr ⟨p, hp, e⟩)⟩
theorem trimEnd {w : World} {l2 l : Lv} {rest news9 : List (Addr × Obj)} {off' : Int} {xs' ys' : List Value} {h₀ h9 : Heap} {L : Addr} {m : Str → Option Value} {s : Shared} {Q : Value → Shared → Prop} {tk9 : Nat} {D I : Addr} {u1 u2 u3 u4 to' : Tok} {c1 c2 : Nat}
    (hret : ∀ (v : Value) news' h' tk', trimPost w [l2] l rest off' xs' ys' v news' → Fr h₀ L h' m → News h₀ L h' news' → Q v { s with heap := h', toks := tk' })
    (F9 : Fr h₀ L h9 m) (N9 : News h₀ L h9 news9) (hx : (l.v, instObj 266 l.dv) ∈ news9) (hd : (l.dv, vDict w D I (.ref l2.v) (.int off' to') u1 u2 u3 u4) ∈ news9) (hD : (D, listOf xs'.toArray c1) ∈ news9) (hI : (I, listOf ys'.toArray c2) ∈ news9)
    (hold : ∀ p ∈ led w [l2] ++ rest, p ∈ news9) (hs : Sep (led w [l, l2] ++ rest)) (h3 : AllLt D (led w [l, l2] ++ rest)) (h4 : AllLt I (led w [l, l2] ++ rest)) (h5 : @Ne Nat D I) :
    Q .none { s with heap := h9, toks := tk9 } := by
  refine hret _ (led w [(⟨l.v, l.dv, D, I, off', u1, u2, u3, u4, to', xs', c1, ys', c2⟩ : Lv), l2] ++ rest) _ _ ⟨rfl, ⟨l.v, l.dv, D, I, off', u1, u2, u3, u4, to', xs', c1, ys', c2⟩, rfl, rfl, rfl, rfl, rfl, ?_⟩ F9 (newsSub N9 ?_)
  · exact sepTrim hs h3 h4 h5
  · intro p hp
    rw [led, List.cons_append, List.cons_append, List.cons_append, List.cons_append] at hp
    rcases List.mem_cons.mp hp with rfl | hp
    · exact hx
    rcases List.mem_cons.mp hp with rfl | hp
    · exact hd
    rcases List.mem_cons.mp hp with rfl | hp
    · exact hD
    rcases List.mem_cons.mp hp with rfl | hp
    · exact hI
    exact hold p hp
local macro_rules | `(tactic| k_all) => `(tactic| assumption)
theorem trimSC (w : World) (p : Program) (loose : List Str) (mean : ExcName → Option Value) (mg mb : Str → Option Value) (l2 l : Lv) (n : Nat) (tn : Tok) (rest : List (Addr × Obj))
    (hsep : Sep (led w [l, l2] ++ rest)) (h1 : 1 ≤ n) (hn : n ≤ l.xs.length) (hlen : l.ys.length = l.xs.length) (hz : l.xs.length ≤ 100) (h2 : 1 ≤ l2.xs.length) (hz2 : l2.xs.length ≤ 100) :
    Tri w p loose mean mg mb 192 [.ref l.v, .int n tn] (led w [l, l2] ++ rest) 20 100
      (trimPost w [l2] l rest (l.off + n) (l.xs.drop n) (l.ys.drop n)) := by
  obtain ⟨v, dv, d, it, off, t1, t2, t3, t4, to, xs, nd, ys, ni⟩ := l
  obtain ⟨v2, dv2, d2, it2, off2, s1, s2, s3, s4, so, xs2, nd2, ys2, ni2⟩ := l2
  unfold Tri
  dsimp only at hn hlen hz h2 hz2
  simp only [led, List.cons_append, List.nil_append, parOf, offOf] at hsep ⊢
  have hP1 := pickFrom xs n (by omega)
  have hP2 := pickFrom ys n (by omega)
  k_fill
  intro dp un gd cn cs aa ccd cl outer A₀ base h₀ L m s Q E B F X N T hck hd9 hu9 hret
  k_with_none
  obtain ⟨hne9, hof9⟩ := dvOff hsep
  refine wpAny_call ?_
  k_dflt (walk_at "enter own")
  k_steps
  rotate_left
  · exfalso; omega
  rename News h₀ _ _ _ => N9
  rename Fr h₀ _ _ _ => F9
  rw [hP1, hP2] at N9
  refine' trimEnd hret F9 N9 ?hx ?hd ?hD ?hI ?hold hsep ?h3 ?h4 ?h5
  case hx => k_mem
  case hd => k_mem
  case hD => k_mem
  case hI => k_mem
  case h3 => exact ⟨ltN (by dsimp only; omega), ltN (by dsimp only; omega), ltN (by dsimp only; omega), ltN (by dsimp only; omega), ltN (by dsimp only; omega), ltN (by dsimp only; omega), ltN (by dsimp only; omega), ltN (by dsimp only; omega), by tbn_find⟩
  case h4 => exact ⟨ltN (by dsimp only; omega), ltN (by dsimp only; omega), ltN (by dsimp only; omega), ltN (by dsimp only; omega), ltN (by dsimp only; omega), ltN (by dsimp only; omega), ltN (by dsimp only; omega), ltN (by dsimp only; omega), by tbn_find⟩
  case h5 => exact neN (by omega)
  case hold =>
    intro p hp
    simp only [led, parOf, offOf, List.cons_append, List.nil_append, List.mem_cons] at hp ⊢
    rcases hp with h | h | h | h | h <;> simp only [h, true_or, or_true]
theorem trimEC (w : World) (p : Program) (loose : List Str) (mean : ExcName → Option Value) (mg mb : Str → Option Value) (l2 l : Lv) (n : Nat) (tn : Tok) (rest : List (Addr × Obj))
    (hsep : Sep (led w [l, l2] ++ rest)) (h1 : 1 ≤ n) (hn : n ≤ l.xs.length) (hlen : l.ys.length = l.xs.length) (hz : l.xs.length ≤ 100) :
    Tri w p loose mean mg mb 200 [.ref l.v, .int n tn] (led w [l, l2] ++ rest) 20 100
      (trimPost w [l2] l rest l.off (l.xs.take (l.xs.length - n)) (l.ys.take (l.ys.length - n))) := by
  obtain ⟨v, dv, d, it, off, t1, t2, t3, t4, to, xs, nd, ys, ni⟩ := l
  obtain ⟨v2, dv2, d2, it2, off2, s1, s2, s3, s4, so, xs2, nd2, ys2, ni2⟩ := l2
  unfold Tri
  dsimp only at hn hlen hz
  simp only [led, List.cons_append, List.nil_append, parOf, offOf] at hsep ⊢
  have hP1 := pickTo xs n h1 (by omega)
  have hP2 := pickTo ys n h1 (by omega)
  k_fill
  intro dp un gd cn cs aa ccd cl outer A₀ base h₀ L m s Q E B F X N T hck hd9 hu9 hret
  k_with_none
  obtain ⟨hne9, hof9⟩ := dvOff hsep
  refine wpAny_call ?_
  k_dflt (walk_at "enter own")
  k_steps
  rename News h₀ _ _ _ => N9
  rename Fr h₀ _ _ _ => F9
  rw [hP1, hP2] at N9
  refine' trimEnd hret F9 N9 ?hx ?hd ?hD ?hI ?hold hsep ?h3 ?h4 ?h5
  case hx => k_mem
  case hd => k_mem
  case hD => k_mem
  case hI => k_mem
  case h3 => exact ⟨ltN (by dsimp only; omega), ltN (by dsimp only; omega), ltN (by dsimp only; omega), ltN (by dsimp only; omega), ltN (by dsimp only; omega), ltN (by dsimp only; omega), ltN (by dsimp only; omega), ltN (by dsimp only; omega), by tbn_find⟩
  case h4 => exact ⟨ltN (by dsimp only; omega), ltN (by dsimp only; omega), ltN (by dsimp only; omega), ltN (by dsimp only; omega), ltN (by dsimp only; omega), ltN (by dsimp only; omega), ltN (by dsimp only; omega), ltN (by dsimp only; omega), by tbn_find⟩
  case h5 => exact neN (by omega)
  case hold =>
    intro p hp
    simp only [led, parOf, offOf, List.cons_append, List.nil_append, List.mem_cons] at hp ⊢
    rcases hp with h | h | h | h | h <;> simp only [h, true_or, or_true]
end Mine
namespace Mine
def newPost2 (w : World) (b : Addr) (xs ys : List Value) (cb : Nat) (tl : List (Addr × Obj)) (r : Value) (news' : List (Addr × Obj)) : Prop :=
  ∃ (v dv d : Addr) (t1 t2 t3 t4 : Tok) (nd : Nat), r = .ref v ∧ news' = (v, instObj 266 dv) :: (dv, vDict w d b .none .none t1 t2 t3 t4) :: (d, listOf xs.toArray nd) :: (b, listOf ys.toArray cb) :: tl ∧
    Sep news' ∧ AllLt v tl ∧ AllLt dv tl ∧ AllLt d tl
theorem allLt_sub {v : Addr} {l l' : List (Addr × Obj)} (h : AllLt v l) (hs : ∀ p ∈ l', p ∈ l) : AllLt v l' := allLt_of fun p hp => ktn_ltOf h p (hs p hp)
theorem newC2 {w : World} {p : Program} {loose : List Str} {mean : ExcName → Option Value} {mg mb : Str → Option Value} {a b : Addr} {xs ys : List Value} {ca cb : Nat} {tl : List (Addr × Obj)}
    (hl : ys.length = xs.length) (h1 : 1 ≤ xs.length) (hz : xs.length ≤ 100) (ha : (a, listOf xs.toArray ca) ∈ tl) (hS : Sep ((b, listOf ys.toArray cb) :: tl))
    {dp un : Nat} {gd : Option (List Code)} {cn : Str} {cs : Scope} {aa : Addr} {ccd : Value} {cl : List (Str × Addr)} {outer : List Env} {A₀ : Around} {base h₀ : Heap} {L : Addr} {m : Str → Option Value} {s : Shared}
    {Q E : Value → Shared → Prop} (B : Below A₀ base outer h₀) (F : Fr h₀ L s.heap m) (X : (hd.heap_39 w.params).In h₀) (N : News h₀ L s.heap ((b, listOf ys.toArray cb) :: tl)) (T : Top p loose mean mg mb h₀) (hk : cs.kind = .function) (hd9 : dp + 20 < recursionLimit) (hu9 : un + 100 < cLine)
    (hret : ∀ r news' h' tk', newPost2 w b xs ys cb tl r news' → Fr h₀ L h' m → News h₀ L h' news' → Q r { s with heap := h', toks := tk' }) :
    wpAny (model PySem.Challenge.rw_ft0008_01.row.prog w) (ktrTop dp un gd cn cs L aa ccd cl outer) (call (.ref 266) [.ref a] [(Str.ofString "items", .ref b)]) Q E s := by
  refine newC w p loose mean mg mb a b xs ys ca cb tl hl h1 hz dp un gd cn cs aa ccd cl outer A₀ base h₀ L m s Q E B F X (newsSub N ?_) T hk hd9 hu9 ?_
  · intro q hq
    rcases List.mem_cons.mp hq with rfl | hq
    · exact .head _
    rcases List.mem_cons.mp hq with rfl | hq
    · exact .tail _ ha
    exact .tail _ hq
  · intro r news' h' tk' hp F' N'
    obtain ⟨v, dv, d, t1, t2, t3, t4, nd, rfl, rfl, g1, g2, g3, n1, n2, n3⟩ := hp
    have sub : ∀ p ∈ (b, listOf ys.toArray cb) :: tl, p ∈ (b, listOf ys.toArray cb) :: (a, listOf xs.toArray ca) :: tl := fun q hq => by
      rcases List.mem_cons.mp hq with rfl | hq
      · exact .head _
      exact .tail _ (.tail _ hq)
    have k1 := allLt_sub g1 sub
    have k2 := allLt_sub g2 sub
    have k3 := allLt_sub g3 sub
    have f : ∀ z : Addr, AllLt z ((b, listOf ys.toArray cb) :: tl) → z ∉ ((b, listOf ys.toArray cb) :: tl).map Prod.fst := fun z hz hm => by
      obtain ⟨q, hq, e⟩ := List.mem_map.mp hm
      exact absurd e (Nat.ne_of_lt (ktn_ltOf hz q hq))
    refine hret _ ((v, instObj 266 dv) :: (dv, vDict w d b .none .none t1 t2 t3 t4) :: (d, listOf xs.toArray nd) :: (b, listOf ys.toArray cb) :: tl) _ _ ⟨v, dv, d, t1, t2, t3, t4, nd, rfl, rfl, ?_, k1.2, k2.2, k3.2⟩ F' (newsSub N' fun q hq => ?_)
    · have e1 := f v k1
      have e2 := f dv k2
      have e3 := f d k3
      unfold Sep at hS ⊢
      rw [List.map_cons, List.map_cons, List.map_cons, List.nodup_cons, List.nodup_cons, List.nodup_cons]
      refine ⟨?_, ?_, e3, hS⟩
      · intro hm
        rcases List.mem_cons.mp hm with e | hm
        · exact n1 e
        rcases List.mem_cons.mp hm with e | hm
        · exact n2 e
        exact e1 hm
      · intro hm
        rcases List.mem_cons.mp hm with e | hm
        · exact n3 e
        exact e2 hm
    · rcases List.mem_cons.mp hq with rfl | hq
      · exact .head _
      rcases List.mem_cons.mp hq with rfl | hq
      · exact .tail _ (.head _)
      rcases List.mem_cons.mp hq with rfl | hq
      · exact .tail _ (.tail _ (.head _))
      exact .tail _ (.tail _ (.tail _ (sub q hq)))
theorem Sep.consNe {a : Addr} {o : Obj} {l : List (Addr × Obj)} (h : Sep l) (hl : ∀ q ∈ l, @Ne Nat q.1 a) : Sep ((a, o) :: l) := by
  unfold Sep at h ⊢
  rw [List.map_cons, List.nodup_cons]
  refine ⟨fun hm => ?_, h⟩
  obtain ⟨q, hq, e⟩ := List.mem_map.mp hm
  exact hl q hq e
theorem off1_mem {D : Addr} : ∀ {l : List (Addr × Obj)}, LCg.Off1 D l → ∀ p ∈ l, @Ne Nat p.1 D
  | [], _, _, h => nomatch h
  | _ :: _, x, p, h => by
    rcases List.mem_cons.mp h with rfl | h
    · exact x.1
    · exact off1_mem x.2 p h
theorem Sep.app {A T : List (Addr × Obj)} (hA : Sep A) (hT : Sep T) (h : ∀ p ∈ T, ∀ q ∈ A, q.1 ≠ p.1) : Sep (A ++ T) := by
  unfold Sep at *
  rw [List.map_append, List.nodup_append]
  refine ⟨hA, hT, fun x hx y hy e => ?_⟩
  obtain ⟨q, hq, rfl⟩ := List.mem_map.mp hx
  obtain ⟨p, hp, rfl⟩ := List.mem_map.mp hy
  exact h p hp q hq e
theorem zipD {T : List (Addr × Obj)} : ∀ {xs ys : List Value} {cs : List Nat} {as : List (Nat × Int)}, Words xs cs → All2 (TupA T) ys as → cs.length = as.length → ∃ Z : List Dm, All2 WordZ xs Z ∧ All2 (Tup T) ys Z ∧ Z.map (·.1) = cs ∧ Z.map (·.2) = as
  | _, _, [], [], .nil, .nil, _ => ⟨[], .nil, .nil, rfl, rfl⟩
  | _, _, c :: cs, a :: as, .cons h1 h2, .cons g1 g2, hl => by
    obtain ⟨Z, a1, a2, a3, a4⟩ := zipD h2 g2 (by simpa using hl)
    exact ⟨(c, a) :: Z, .cons h1 a1, .cons g1 a2, by simp [a3], by simp [a4]⟩
noncomputable def NeAll (a : Nat) : List (Addr × Obj) → Prop
  | [] => True
  | p :: r => (@Ne Nat a p.1) ∧ NeAll a r
noncomputable def Apart : List (Addr × Obj) → Prop
  | [] => True
  | p :: r => NeAll p.1 r ∧ Apart r
theorem neAll_mem {a : Nat} : ∀ {l : List (Addr × Obj)}, NeAll a l → ∀ p ∈ l, @Ne Nat a p.1
  | [], _, _, h => nomatch h
  | _ :: _, x, p, h => by
    rcases List.mem_cons.mp h with rfl | h
    · exact x.1
    · exact neAll_mem x.2 p h
theorem apart_sep : ∀ {l : List (Addr × Obj)}, Apart l → Sep l
  | [], _ => List.nodup_nil
  | _ :: _, h => (apart_sep h.2).consNe fun q hq => Ne.symm (neAll_mem h.1 q hq)
theorem sepOf {h₀ h : Heap} {L : Addr} {x : Addr × Obj} {R : List (Addr × Obj)} (_ : News h₀ L h (x :: R)) (hA : Apart R) : Sep R := apart_sep hA
theorem sepItems {news T : List (Addr × Obj)} {ys : List Value} {as : List (Nat × Int)} (hJ : ItJ news T ys as) (h : Sep news) : Sep (news ++ T) := Sep.app h hJ.apart hJ.off
theorem begin_nat (x : Int) (mn : Nat) (h : 3 ≤ mn) : ∃ bg : Nat, x.fmod ((mn : Int) - 1) = (bg : Int) ∧ bg + 2 ≤ mn := by
  have h0 := Int.fmod_nonneg_of_pos x (b := (mn : Int) - 1) (by omega)
  have h1 := Int.fmod_lt_of_pos x (b := (mn : Int) - 1) (by omega)
  exact ⟨(x.fmod ((mn : Int) - 1)).toNat, by omega, by omega⟩
theorem stop_nat (x : Int) (mn bg : Nat) (h : bg + 2 ≤ mn) : ∃ st : Nat, (bg : Int) + 2 + x.fmod ((mn : Int) - (bg : Int) - 1) = (st : Int) ∧ bg + 2 ≤ st ∧ st ≤ mn := by
  have h0 := Int.fmod_nonneg_of_pos x (b := (mn : Int) - (bg : Int) - 1) (by omega)
  have h1 := Int.fmod_lt_of_pos x (b := (mn : Int) - (bg : Int) - 1) (by omega)
  exact ⟨((bg : Int) + 2 + x.fmod ((mn : Int) - (bg : Int) - 1)).toNat, by omega, by omega, by omega⟩
theorem skip_nat (x : Int) (mn bg : Nat) (h : bg + 2 ≤ mn) : ∃ sk : Nat, x.fmod ((mn : Int) - (bg : Int) - 1) = (sk : Int) ∧ bg + 2 + sk ≤ mn := by
  have h0 := Int.fmod_nonneg_of_pos x (b := (mn : Int) - (bg : Int) - 1) (by omega)
  have h1 := Int.fmod_lt_of_pos x (b := (mn : Int) - (bg : Int) - 1) (by omega)
  exact ⟨(x.fmod ((mn : Int) - (bg : Int) - 1)).toNat, by omega, by omega⟩
end Mine
namespace Mine
section
variable {w : World} {A : Around} {E : Value → Shared → Prop} {s : Shared} {h₀ : Heap} {L : Addr} {m : Str → Option Value} {news : List (Addr × Obj)}
theorem collectR {prog : Program} {r : Addr} {a b : Int} {t u v : Tok} {n : Nat} {Q : List Value → Shared → Prop} (hh : A.handled = none) (hr : IsRange s.heap r a b 1 t u v) (hsm : Builtin.Range.small a b 1 = true) (hn : Builtin.Range.rangeSize a b 1 = (n : Int)) (hz : n ≤ 2 ^ 24)
    (h : ∀ h' tk vs, (∀ b o, s.heap.get? b = some o → h'.get? b = some o) → IntsAre vs (rangeKs a n) → Q vs { s with heap := h', toks := tk }) :
    wpAny (model prog w) A (collect (.ref r)) Q E s := by
  unfold collect
  refine wpAny_bind (wpAny_runValue (codeAny_builtin F.entry_proto_collect ?_))
  rw [Around.under_plainId F.plain_proto_collect _]
  show wpAny _ A.in1 (newList [] >>= fun l => again (.builtin "list.__iadd__" ⟨[l, .ref r], []⟩)) _ _ s
  refine wpAny_bind (wpAny_newObj_type ?_)
  refine wpAny_pure ⟨plainId_quiet F.plain_list_iadd _, codeAny_builtin F.entry_list_iadd ?_⟩
  rw [Around.under_plainId F.plain_list_iadd _]
  show wpAny _ A.in1 (Builtin.List.listExtendWith (.ref s.heap.objs.size) (.ref r) (.ref s.heap.objs.size)) _ _ _
  have hS₁ : (s.heap.push { cls := .type "list", data := .seq ([] : List Value).toArray }).get? s.heap.objs.size = some { cls := .type "list", data := .seq #[] 0 } := Heap.get?_push_size _ rfl
  have hr₁ := Heap.get?_push_of_some { cls := .type "list", data := .seq ([] : List Value).toArray } hr
  refine wpAny_extend_range (R := fun r s' => match r with
    | .ok (.ret v) => wpAny (model prog w) A (match v with
      | .ref a => do match (← load a).data with
        | .seq xs _ => pure xs.toList
        | _ => unsupported "internal:collect"
      | _ => unsupported "internal:collect") Q E s'
    | .ok _ => False
    | .error e => E e s') (s := { s with heap := s.heap.push { cls := .type "list", data := .seq ([] : List Value).toArray } }) hh hr₁ hsm hn hz s.heap.objs.size (.ref s.heap.objs.size) 0 hS₁ fun h' tk acc' c' hk hS hI => ?_
  show wpAny _ A (load s.heap.objs.size >>= _) _ _ _
  refine wpAny_bind (wpAny_load hS ?_)
  refine wpAny_pure (h _ _ _ (fun b o e => hk b o (Nat.ne_of_lt (Heap.lt_size e)) (Heap.get?_push_of_some _ e)) ?_)
  exact kll_ints _ _ _ (by rw [Array.length_toList]; exact hI.1) fun j v hj => hI.2 j v (by rw [← hj, Array.getElem?_toList])
theorem sortedR {prog : Program} {r : Addr} {a b : Int} {t u v : Tok} {n : Nat} {f : Value} {kw : List (Str × Value)} {Q : Value → Shared → Prop} (hh : A.handled = none) (F : Fr h₀ L s.heap m) (N : News h₀ L s.heap news) (hr : IsRange s.heap r a b 1 t u v) (hsm : Builtin.Range.small a b 1 = true) (hn : Builtin.Range.rangeSize a b 1 = (n : Int)) (h2 : 2 ≤ n) (h64 : n < 64)
    (ha1 : argsOk "sorted" ⟨[.ref r], kw⟩) (ha2 : ∀ x, argsOk "list.sort" ⟨[.ref x], kw⟩) (ht : ∀ x, Builtin.«list.sort» ⟨[.ref x], kw⟩ = ksk_tree x f false)
    (h : ∀ vs D kS e1 h' tk, IntsAre vs (rangeKs a n) → vs.length = n → Fr h₀ L h' m → News h₀ L h' ((kS, seqObj "list" #[] 0) :: (D, seqObj "list" #[] e1) :: news) → D < kS → (∀ q ∈ news, q.1 < D) →
      KatKeys prog w A.in1.in1 h₀ L m kS f (fun ks e s' => wpAny (model prog w) A.in1.in1 (keyKind' (List.toArray ks)) (fun κ s'' => (kas_sort vs.length).kasWp (kas_ask prog w A.in1.in1 κ (katRev false ks)) (fun p s3 => KatFin h₀ L m kS D ks e e1 (katRev false (p.toList.map fun i => (katRev false vs).getD i Value.none)) (fun s4 => Q (.ref D) s4) s3) s'') (fun _ _ => False) s') vs [] 0 { s with heap := h', toks := tk }) :
    wpAny (model prog w) A (call (.builtin "sorted") [.ref r] kw) Q E s := by
  refine call_function_entry_kw kind_sorted plain_sorted entry_sorted ha1 ?_
  unfold Builtin.«sorted»
  refine wpAny_bind (m := checkCount "sorted" 1 1 _) (wpAny_pure ?_)
  refine wpAny_bind (collectR (A := A.in1) hh hr hsm hn (by omega) fun g tk vs hk hI => ?_)
  have hl : vs.length = n := by rw [hI.length, rangeKs_length]
  refine wpAny_bind (wpAny_newList ?_ (by rw [sizeLine_eq]; omega))
  have hoL : (g.push (seqObj "list" vs.toArray 0)).get? g.objs.size = some (seqObj "list" vs.toArray 0) := Heap.get?_push_size _ rfl
  have keep : ∀ b o, s.heap.get? b = some o → (g.push (seqObj "list" vs.toArray 0)).get? b = some o := fun b o q => Heap.get?_push_of_some _ (hk b o q)
  have F1 : Fr h₀ L g m := F.keeps hk
  have N1 : News h₀ L g news := N.grown hk
  have hL : L < g.objs.size := F1.ns.lt
  show wpAny _ _ _ _ _ { s with heap := g.push (seqObj "list" vs.toArray 0), toks := tk }
  refine wpAny_bind (wpAny_holding (wpAny_call_entry_kw slot_list_sort ⟨_, hoL, rfl⟩ entry_list_sort ?body (ha2 _)))
  case body =>
    have ht' := ht g.objs.size
    show wpAny (model prog w) A.in1.in1 (Builtin.«list.sort» ⟨[.ref g.objs.size], kw⟩) _ _ _
    rw [ht']
    refine kat_keyed (s := { s with heap := g.push (seqObj "list" vs.toArray 0), toks := tk })
      (F.keeps keep) (N.grown keep) hoL (Nat.ne_of_gt hL) (Heap.get?_none_of_le (Nat.le_trans F1.above (Nat.le_of_lt hL)))
      (fun p hp => Nat.ne_of_lt (Heap.lt_size (N1 p hp).1)) (by omega) (by omega) fun kS e1 h' F' N' l0 l1 => ?_
    refine kat_keys_mono (h vs _ kS e1 h' tk hI hl F' N' l0 fun q hq => Heap.lt_size (N1 q hq).1) fun ks e s' hl' hd => ?_
    have hl2 : ks.length = vs.length := by simpa using hl'
    refine wpAny_mono hd (fun κ s'' hk => ?_) fun _ _ x => x
    rw [kat_ask_eq (vs := katRev false vs) (by rw [kat_len, kat_len, hl2])] at hk ⊢
    exact kas_wp_mono hk fun p s3 hk' => hk'.mono fun s4 hq => ⟨_, rfl, wpAny_pure ⟨_, rfl, hq⟩⟩
end
end Mine
namespace Mine
theorem words_kinds {M : Model} {h : Heap} {vs : List Value} {cs : List Nat} (hW : Words vs cs) : ∀ v ∈ vs, Looks M h (typeOf v) (.type "str") := by
  intro v hv
  obtain ⟨i, hi, rfl⟩ := List.mem_iff_getElem.mp hv
  obtain ⟨t, e⟩ := hW.get i hi (by rw [← hW.len]; omega)
  rw [e]; exact Looks.of_pure rfl
theorem sortWords {prog : Program} {w : World} {A : Around} {s : Shared} {vs : List Value} {cs : List Nat} {G : Array Nat → Shared → Prop} (hW : Words vs cs) (h1 : 1 ≤ vs.length)
    (h : ∀ p : Array Nat, p.toList.Perm (List.range vs.length) → p.toList.Pairwise (R fun i => cs.getD i 0) → G p s) : (kas_sort vs.length).kasWp (kas_ask prog w A oneType' vs) G s := by
  have hlen := hW.len
  obtain ⟨p, ep, hps, hperm, hR⟩ := sort_ok (f := fun i => cs.getD i 0) (n := vs.length) (by omega)
  refine kasWp_run (n := vs.length) (c := cc fun i => cs.getD i 0) (P := fun _ => True) (fun i j C s' hi hj hC => ?_) _ _ (in_sort (by omega)) ?_
  · unfold kas_ask
    obtain ⟨t, e⟩ := hW.get i hi (by omega)
    obtain ⟨u, e2⟩ := hW.get j hj (by omega)
    have g1 : vs.getD i Value.none = vs[i] := by simp [hi]
    have g2 : vs.getD j Value.none = vs[j] := by simp [hj]
    rw [g1, g2, e, e2]
    refine kas_lt_str ?_
    rw [str_lt1]
    have c1 : cs.getD i 0 = cs[i]'(by omega) := by simp [show i < cs.length by omega]
    have c2 : cs.getD j 0 = cs[j]'(by omega) := by simp [show j < cs.length by omega]
    have hd : decide (cs[i]'(by omega) < cs[j]'(by omega)) = cc (fun i => cs.getD i 0) i j := by unfold cc; simp only [c1, c2]
    rw [hd]
    exact hC
  · rw [ep]
    exact h p hperm hR
theorem ints_pick {vs : List Value} {a : Int} {n : Nat} (h : IntsAre vs (rangeKs a n)) (hl : vs.length = n) : ∀ p : List Nat, (∀ i ∈ p, i < n) → IntsAre (p.map fun i => vs.getD i Value.none) (p.map fun i : Nat => a + (i : Int))
  | [], _ => .nil
  | i :: p, hp => by
    have hi := hp i (.head _)
    obtain ⟨t, e⟩ := h.get i (a + (i : Int)) (by unfold rangeKs; rw [List.getElem?_map, List.getElem?_range hi]; rfl)
    have e2 : vs.getD i Value.none = .int (a + (i : Int)) t := by rw [List.getD_eq_getElem?_getD, e]; rfl
    rw [List.map_cons, List.map_cons, e2]
    exact .cons _ _ (ints_pick h hl p fun j hj => hp j (.tail _ hj))
section
variable {prog : Program} {w : World} {A : Around} {E : Value → Shared → Prop} {s : Shared} {h₀ : Heap} {L : Addr} {m : Str → Option Value} {news : List (Addr × Obj)}
theorem sortedKey {r : Addr} {a b : Int} {t u v : Tok} {n : Nat} {f : Value} {kw : List (Str × Value)} {cs : List Nat} {Q : Value → Shared → Prop} (hh : A.handled = none) (F : Fr h₀ L s.heap m) (N : News h₀ L s.heap news) (hr : IsRange s.heap r a b 1 t u v) (hsm : Builtin.Range.small a b 1 = true) (hn : Builtin.Range.rangeSize a b 1 = (n : Int)) (h2 : 2 ≤ n) (h64 : n < 64)
    (ha1 : argsOk "sorted" ⟨[.ref r], kw⟩) (ha2 : ∀ x, argsOk "list.sort" ⟨[.ref x], kw⟩) (ht : ∀ x, Builtin.«list.sort» ⟨[.ref x], kw⟩ = ksk_tree x f false) (hcl : cs.length = n)
    (turn : ∀ (i : Nat) ti D kS e e1 (ks : List Value) h tk (C : Value → Shared → Prop), i < n → D < kS → (∀ q ∈ news, q.1 < D) → Fr h₀ L h m → News h₀ L h ((kS, listOf ks.toArray e) :: (D, listOf #[] e1) :: news) →
      (∀ k h' tk', Word k (cs.getD i 0) → Fr h₀ L h' m → News h₀ L h' ((kS, listOf ks.toArray e) :: (D, listOf #[] e1) :: news) → C k { s with heap := h', toks := tk' }) →
      wpAny (model prog w) A.in1.in1 (call f [.int (a + (i : Int)) ti]) C (fun _ _ => False) { s with heap := h, toks := tk })
    (done : ∀ D c h' tk us (p : List Nat), Fr h₀ L h' m → News h₀ L h' ((D, listOf us.toArray c) :: news) → (∀ q ∈ news, q.1 < D) → p.Perm (List.range n) → p.Pairwise (R fun i => cs.getD i 0) → IntsAre us (p.map fun i : Nat => a + (i : Int)) → Q (.ref D) { s with heap := h', toks := tk }) :
    wpAny (model prog w) A (call (.builtin "sorted") [.ref r] kw) Q E s := by
  refine sortedR hh F N hr hsm hn h2 h64 ha1 ha2 ht fun vs D kS e1 h0 tk0 hI hl F0 N0 l0 l1 => ?_
  have nk : ∀ q ∈ news, q.1 ≠ kS := fun q hq => Nat.ne_of_lt (Nat.lt_trans (l1 q hq) l0)
  have nd : ∀ q ∈ news, q.1 ≠ D := fun q hq => Nat.ne_of_lt (l1 q hq)
  have key : ∀ (r : List Value) (i : Nat) (ks : List Value) (e : Nat) (h : Heap) (tk : Nat), i + r.length = n → IntsAre r ((rangeKs a n).drop i) → Words ks (cs.take i) → Fr h₀ L h m → News h₀ L h ((kS, listOf ks.toArray e) :: (D, listOf #[] e1) :: news) →
      KatKeys prog w A.in1.in1 h₀ L m kS f (fun ks e s' => wpAny (model prog w) A.in1.in1 (keyKind' (List.toArray ks)) (fun κ s'' => (kas_sort vs.length).kasWp (kas_ask prog w A.in1.in1 κ (katRev false ks)) (fun p s3 => KatFin h₀ L m kS D ks e e1 (katRev false (p.toList.map fun i => (katRev false vs).getD i Value.none)) (fun s4 => Q (.ref D) s4) s3) s'') (fun _ _ => False) s') r ks e { s with heap := h, toks := tk } := by
    intro r
    induction r with
    | nil =>
      intro i ks e h tk hi _ hW F1 N1
      have ei : i = n := by simpa using hi
      rw [ei, List.take_of_length_le (by omega)] at hW
      have hkl : ks.length = vs.length := by rw [hW.len, hcl, hl]
      refine KatKeys.nil ?_
      refine kas_kind (by omega) (words_kinds hW) (by rfl) (by rfl) ?_
      show (kas_sort vs.length).kasWp (kas_ask prog w A.in1.in1 oneType' ks) _ _
      rw [← hkl]
      refine sortWords hW (by omega) fun p hp hR => ?_
      refine KatFin.intro F1 N1 (.head fun q hq => ?_) fun h2 c F2 N2 => KasFin.intro F2 N2 (.tail (Ne.symm (Nat.ne_of_lt l0)) (.head nd)) fun h3 c3 F3 N3 => ?_
      · rcases List.mem_cons.mp hq with rfl | hq
        · exact Nat.ne_of_lt l0
        · exact nk q hq
      · rw [hkl, hl] at hp
        exact done D c3 h3 tk _ p.toList F3 (fun q hq => N3 q (.tail _ hq)) l1 hp hR (ints_pick hI hl _ fun i hi => by simpa using hp.mem_iff.mp hi)
    | cons v r ih =>
      intro i ks e h tk hi hI1 hW F1 N1
      rw [List.length_cons] at hi
      have hlt : i < n := by omega
      have hd : (rangeKs a n).drop i = (a + (i : Int)) :: (rangeKs a n).drop (i + 1) := by
        have hlen : i < (rangeKs a n).length := by rw [rangeKs_length]; exact hlt
        rw [List.drop_eq_getElem_cons hlen]
        congr 1
        simp [rangeKs]
      rw [hd] at hI1
      cases hI1 with
      | cons _ ti hI2 =>
      refine KatKeys.cons (turn i ti D kS e e1 ks h tk _ hlt l0 l1 F1 N1 fun k h' tk' hk F2 N2 => ?_)
      refine KatBack.intro F2 N2 (.head fun q hq => ?_) fun h3 c3 F3 N3 => ?_
      · rcases List.mem_cons.mp hq with rfl | hq
        · exact Nat.ne_of_lt l0
        · exact nk q hq
      · refine ih (i + 1) (ks ++ [k]) c3 h3 tk' (by omega) hI2 ?_ F3 N3
        have ht : cs.take (i + 1) = cs.take i ++ [cs.getD i 0] := by
          rw [List.take_add_one]
          congr 1
          rw [List.getD_eq_getElem?_getD, List.getElem?_eq_getElem (by omega)]
          rfl
        rw [ht]
        exact All2.snoc hW hk
  exact key vs 0 [] 0 h0 tk0 (by omega) (by rw [List.drop_zero]; exact hI) .nil F0 N0
end
end Mine
namespace Mine
section
variable {prog : Program} {w : World} {A : Around} {E : Value → Shared → Prop} {s : Shared} {Q : Value → Shared → Prop}
theorem modBegin {x : Int} {mn : Nat} {t u : Tok} (h3 : 3 ≤ mn) (h : ∀ bg : Nat, bg + 2 ≤ mn → Q (.int (bg : Int) s.toks) { s with toks := s.toks + 1 }) : wpAny (model prog w) A (binaryOp .Mod (.int x t) (.int ((mn : Int) - 1) u)) Q E s := by
  obtain ⟨bg, hbg, hbg2⟩ := begin_nat x mn h3
  refine mod_int' (by omega) ?_
  rw [hbg]
  exact h bg hbg2
theorem modSkip {x : Int} {mn bg : Nat} {t u : Tok} (h3 : bg + 2 ≤ mn) (h : ∀ sk : Nat, bg + 2 + sk ≤ mn → Q (.int (sk : Int) s.toks) { s with toks := s.toks + 1 }) : wpAny (model prog w) A (binaryOp .Mod (.int x t) (.int ((mn : Int) - (bg : Int) - 1) u)) Q E s := by
  obtain ⟨sk, hsk, hsk2⟩ := skip_nat x mn bg h3
  refine mod_int' (by omega) ?_
  rw [hsk]
  exact h sk hsk2
end
end Mine
namespace Mine
theorem sepNews {h₀ h : Heap} {L : Addr} {l l' : List (Addr × Obj)} (_ : News h₀ L h l') (h : Sep l) (e : l'.map Prod.fst = l.map Prod.fst) : Sep l' := Sep.of_map h e
section
variable {w : World} {h₀ h : Heap} {L : Addr} {v dv d it v2 dv2 d2 it2 : Addr} {off off2 : Int} {t1 t2 t3 t4 to s1 s2 s3 s4 to2 : Tok} {xs xs2 : List Value} {nd nd2 : Nat} {ys ys2 : List Value} {ni ni2 : Nat} {rest : List (Addr × Obj)}
theorem toLed1 (N : News h₀ L h ((v, instObj 266 dv) :: (dv, vDict w d it .none .none t1 t2 t3 t4) :: (d, listOf xs.toArray nd) :: (it, listOf ys.toArray ni) :: rest)) : News h₀ L h (led w [⟨v, dv, d, it, off, t1, t2, t3, t4, to, xs, nd, ys, ni⟩] ++ rest) := N
theorem toSep1 (N : Sep ((v, instObj 266 dv) :: (dv, vDict w d it .none .none t1 t2 t3 t4) :: (d, listOf xs.toArray nd) :: (it, listOf ys.toArray ni) :: rest)) : Sep (led w [⟨v, dv, d, it, off, t1, t2, t3, t4, to, xs, nd, ys, ni⟩] ++ rest) := N
theorem toLed2 (N : News h₀ L h ((v, instObj 266 dv) :: (dv, vDict w d it (.ref v2) (.int off to) t1 t2 t3 t4) :: (d, listOf xs.toArray nd) :: (it, listOf ys.toArray ni) ::
    (v2, instObj 266 dv2) :: (dv2, vDict w d2 it2 .none .none s1 s2 s3 s4) :: (d2, listOf xs2.toArray nd2) :: (it2, listOf ys2.toArray ni2) :: rest)) :
    News h₀ L h (led w [⟨v, dv, d, it, off, t1, t2, t3, t4, to, xs, nd, ys, ni⟩, ⟨v2, dv2, d2, it2, off2, s1, s2, s3, s4, to2, xs2, nd2, ys2, ni2⟩] ++ rest) := N
theorem toSep2 (N : Sep ((v, instObj 266 dv) :: (dv, vDict w d it (.ref v2) (.int off to) t1 t2 t3 t4) :: (d, listOf xs.toArray nd) :: (it, listOf ys.toArray ni) ::
    (v2, instObj 266 dv2) :: (dv2, vDict w d2 it2 .none .none s1 s2 s3 s4) :: (d2, listOf xs2.toArray nd2) :: (it2, listOf ys2.toArray ni2) :: rest)) :
    Sep (led w [⟨v, dv, d, it, off, t1, t2, t3, t4, to, xs, nd, ys, ni⟩, ⟨v2, dv2, d2, it2, off2, s1, s2, s3, s4, to2, xs2, nd2, ys2, ni2⟩] ++ rest) := N
theorem ofLed2 (N : News h₀ L h (led w [⟨v, dv, d, it, off, t1, t2, t3, t4, to, xs, nd, ys, ni⟩, ⟨v2, dv2, d2, it2, off2, s1, s2, s3, s4, to2, xs2, nd2, ys2, ni2⟩] ++ rest)) :
    News h₀ L h ((v, instObj 266 dv) :: (dv, vDict w d it (.ref v2) (.int off to) t1 t2 t3 t4) :: (d, listOf xs.toArray nd) :: (it, listOf ys.toArray ni) ::
    (v2, instObj 266 dv2) :: (dv2, vDict w d2 it2 .none .none s1 s2 s3 s4) :: (d2, listOf xs2.toArray nd2) :: (it2, listOf ys2.toArray ni2) :: rest) := N
theorem ofSep2 (N : Sep (led w [⟨v, dv, d, it, off, t1, t2, t3, t4, to, xs, nd, ys, ni⟩, ⟨v2, dv2, d2, it2, off2, s1, s2, s3, s4, to2, xs2, nd2, ys2, ni2⟩] ++ rest)) :
    Sep ((v, instObj 266 dv) :: (dv, vDict w d it (.ref v2) (.int off to) t1 t2 t3 t4) :: (d, listOf xs.toArray nd) :: (it, listOf ys.toArray ni) ::
    (v2, instObj 266 dv2) :: (dv2, vDict w d2 it2 .none .none s1 s2 s3 s4) :: (d2, listOf xs2.toArray nd2) :: (it2, listOf ys2.toArray ni2) :: rest) := N
end
/-- what an `if` around a trim leaves -/
def IfPost (w : World) (h₀ : Heap) (L : Addr) (m : Str → Option Value) (pv : Addr) (lw : Lv) (rest : List (Addr × Obj)) (off : Int) (xs ys : List Value) (s : Shared) (fl : Flow) (s' : Shared) : Prop :=
  fl = .next ∧ ∃ (c : Lv) (h : Heap) (tk : Nat), s' = { s with heap := h, toks := tk } ∧ c.v = pv ∧ c.off = off ∧ c.xs = xs ∧ c.ys = ys ∧ Fr h₀ L h m ∧ News h₀ L h (led w [c, lw] ++ rest) ∧ Sep (led w [c, lw] ++ rest)
theorem ifMerge {prog : Program} {w : World} {A : Around} {E : Value → Shared → Prop} {s : Shared} {h₀ : Heap} {L : Addr} {m : Str → Option Value} {Q : Flow → Shared → Prop} {t : Sem Flow} {c₀ lw : Lv} {rest : List (Addr × Obj)} (F : Fr h₀ L s.heap m) (N : News h₀ L s.heap (led w [c₀, lw] ++ rest)) (off : Int) (xs ys : List Value)
    (run : wpAny (model prog w) A t (IfPost w h₀ L m c₀.v lw rest off xs ys s) E s)
    (go : ∀ (c : Lv) h tk, c.v = c₀.v → c.off = off → c.xs = xs → c.ys = ys → Fr h₀ L h m → News h₀ L h (led w [c, lw] ++ rest) → Sep (led w [c, lw] ++ rest) → Q .next { s with heap := h, toks := tk }) :
    wpAny (model prog w) A t Q E s := by
  refine wpAny_mono run (fun fl s' hp => ?_) fun _ _ e => e
  obtain ⟨rfl, c, h, tk, rfl, e1, e2, e3, e4, F', N', S'⟩ := hp
  exact go c h tk e1 e2 e3 e4 F' N' S'
theorem ifStay {w : World} {s : Shared} {h₀ h : Heap} {L : Addr} {m : Str → Option Value} {c₀ lw : Lv} {rest : List (Addr × Obj)} {off : Int} {xs ys : List Value} {tk : Nat} (F : Fr h₀ L h m) (N : News h₀ L h (led w [c₀, lw] ++ rest)) (S : Sep (led w [c₀, lw] ++ rest)) (e1 : c₀.off = off) (e2 : c₀.xs = xs) (e3 : c₀.ys = ys) :
    IfPost w h₀ L m c₀.v lw rest off xs ys s .next { s with heap := h, toks := tk } := ⟨rfl, c₀, h, tk, rfl, rfl, e1, e2, e3, F, N, S⟩
theorem ifDone {w : World} {s : Shared} {h₀ h : Heap} {L pv : Addr} {m : Str → Option Value} {c₀ lw : Lv} {rest : List (Addr × Obj)} {off : Int} {xs ys : List Value} {tk : Nat} (F : Fr h₀ L h m) (N : News h₀ L h (led w [c₀, lw] ++ rest)) (S : Sep (led w [c₀, lw] ++ rest)) (e0 : c₀.v = pv) (e1 : c₀.off = off) (e2 : c₀.xs = xs) (e3 : c₀.ys = ys) :
    IfPost w h₀ L m pv lw rest off xs ys s .next { s with heap := h, toks := tk } := ⟨rfl, c₀, h, tk, rfl, e0, e1, e2, e3, F, N, S⟩
end Mine
namespace Mine
theorem lawStart {news T REST : List (Addr × Obj)} {xs ys : List Value} {cs : List Nat} {as : List (Nat × Int)} {mn bg st : Nat} {l l2 : Lv} {w : World} {h₀ h : Heap} {L : Addr} {R0 : List (Addr × Obj)} (_ : News h₀ L h (led w [l, l2] ++ R0)) (hW : Words xs cs) (hJ : ItJ news T ys as) (hT : ∀ p ∈ T, p ∈ REST) (hcl : cs.length = mn) (hal : as.length = mn) (hcb : ∀ c ∈ cs, c < 128) (hm : mn ≤ 50) (h1 : bg + 2 ≤ st) (h2 : st ≤ mn)
    (e1 : l.off = (bg : Int)) (e2 : l.xs = (xs.drop bg).take (st - bg)) (e3 : l.ys = (ys.drop bg).take (st - bg)) (e4 : l2.off = 0) (e5 : l2.xs = xs) (e6 : l2.ys = ys) :
    ∃ Z : List Dm, Bnd Z ∧ Geo REST Z [l, l2] [(bg, st - bg), (0, mn)] ∧ All2 WordZ xs Z ∧ All2 (Tup REST) ys Z ∧ Z.length = mn ∧ Z.map (·.1) = cs := by
  obtain ⟨Z, a1, a2, a3, a4⟩ := zipD hW hJ.tups (by omega)
  have hl : Z.length = mn := by have := congrArg List.length a3; rw [List.length_map] at this; omega
  have a2' : All2 (Tup REST) ys Z := a2.mono fun _ _ q => q.mono hT
  refine ⟨Z, ⟨by omega, fun z hz => ⟨?_, ?_⟩⟩, ⟨⟨?_, ?_⟩, by rw [e1]; omega, by omega, by omega, rfl, hl.symm, by omega, ⟨by rw [e5]; exact a1, by rw [e6]; exact a2'⟩⟩, a1, a2', hl, a3⟩
  · exact hcb _ (a3 ▸ List.mem_map.mpr ⟨z, hz, rfl⟩)
  · exact hJ.small _ (a4 ▸ List.mem_map.mpr ⟨z, hz, rfl⟩)
  · rw [e2]; exact (a1.drop bg).take _
  · rw [e3]; exact (a2'.drop bg).take _
theorem swap9 {h₀ h : Heap} {L : Addr} {C T : List (Addr × Obj)} {a b c d e f g i j : Addr × Obj} (N : News h₀ L h (C ++ a :: b :: c :: d :: e :: f :: g :: i :: j :: T)) (S : Sep (C ++ a :: b :: c :: d :: e :: f :: g :: i :: j :: T)) :
    News h₀ L h (C ++ (T ++ [a, b, c, d, e, f, g, i, j])) ∧ Sep (C ++ (T ++ [a, b, c, d, e, f, g, i, j])) := by
  have e1 : (C ++ (T ++ [a, b, c, d, e, f, g, i, j])).Perm (C ++ a :: b :: c :: d :: e :: f :: g :: i :: j :: T) :=
    List.Perm.append_left C (List.perm_append_comm (l₁ := T) (l₂ := [a, b, c, d, e, f, g, i, j]))
  exact ⟨newsSub N fun p hp => e1.mem_iff.mp hp, S.perm e1⟩
theorem lawMid {w : World} {l : Lv} {v dv d it : Addr} {off : Int} {t1 t2 t3 t4 to : Tok} {xs ys : List Value} {nd ni : Nat} {T rest : List (Addr × Obj)} {Z : List Dm} {bg n mn : Nat} {u : Value} {news' : List (Addr × Obj)}
    (h : loPost w [l, ⟨v, dv, d, it, off, t1, t2, t3, t4, to, xs, nd, ys, ni⟩] T rest Z [(0, mn)] bg n u news') :
    u = .bool true ∧ ∃ (xs' : List Value) (nd' : Nat) (ys' : List Value) (ni' : Nat) (T' : List (Addr × Obj)) (S : List Dm), SS keyZ ((Z.drop bg).take n) S ∧ All2 WordZ xs' (Z.take bg ++ S ++ Z.drop (bg + n)) ∧ All2 (Tup T') ys' (Z.take bg ++ S ++ Z.drop (bg + n)) ∧ (∀ p ∈ T, p ∈ T') ∧
      Sep (rest ++ T') ∧ ∀ p ∈ (v, instObj 266 dv) :: (dv, vDict w d it .none .none t1 t2 t3 t4) :: (d, listOf xs'.toArray nd') :: (it, listOf ys'.toArray ni') :: (rest ++ T'), p ∈ news' := by
  obtain ⟨hu, xs', nd', ys', ni', r', T', S, hr, hT, hs, hG, hS, hsub⟩ := loPost_child h
  have er : r' = [] := by
    cases r' with
    | nil => rfl
    | cons _ _ => simp [Same] at hr
  subst er
  refine ⟨hu, xs', nd', ys', ni', T', S, hs, hG.2.2.2.xs, hG.2.2.2.ys, hT, ?_, fun p hp => hsub p ?_⟩
  · have := sepDrop4 hS
    exact this.perm List.perm_append_comm
  · simp only [led, parOf, offOf, List.cons_append, List.nil_append, List.mem_cons, List.mem_append] at hp ⊢
    rcases hp with h | h | h | h | h | h <;> simp [h]
theorem sepLast {A T : List (Addr × Obj)} {a : Addr} {o : Obj} (S : Sep (A ++ T)) (h : (a, o) ∈ A) : ∀ p ∈ T, @Ne Nat p.1 a := by
  intro p hp e
  unfold Sep at S
  rw [List.map_append, List.nodup_append] at S
  exact S.2.2 a (List.mem_map.mpr ⟨_, h, rfl⟩) p.1 (List.mem_map.mpr ⟨p, hp, rfl⟩) e.symm
theorem words_at {xs : List Value} {cs : List Nat} (hW : Words xs cs) {i : Nat} (h : i < cs.length) : ∃ y, xs[i]? = some y ∧ Word y (cs.getD i 0) := by
  have hl := hW.len
  have hi : i < xs.length := by omega
  refine ⟨xs[i], List.getElem?_eq_getElem hi, ?_⟩
  have := hW.get i hi h
  rw [List.getD_eq_getElem?_getD, List.getElem?_eq_getElem h]
  exact this
theorem getD_win (cs : List Nat) (a n : Nat) {i : Nat} (h : i < n) : ((cs.drop a).take n).getD i 0 = cs.getD (a + i) 0 := by
  rw [List.getD_eq_getElem?_getD, List.getD_eq_getElem?_getD, List.getElem?_take, if_pos h, List.getElem?_drop]
abbrev rangeObj (a b : Int) (t u v : Tok) : Obj := { cls := .type "range", dict := none, data := .fields #[.int a t, .int b u, .int 1 v], slots := #[] }
theorem range2L {prog : Program} {w : World} {A : Around} {E : Value → Shared → Prop} {s : Shared} {h₀ : Heap} {L : Addr} {m : Str → Option Value} {news : List (Addr × Obj)} {a b : Int} {t u : Tok} {Q : Value → Shared → Prop} (F : Fr h₀ L s.heap m) (N : News h₀ L s.heap news)
    (h : ∀ r h' tk t₁ u₁ v₁, Fr h₀ L h' m → News h₀ L h' ((r, rangeObj a b t₁ u₁ v₁) :: news) → (∀ p ∈ news, p.1 < r) → Q (.ref r) { s with heap := h', toks := tk }) :
    wpAny (model prog w) A (call (.type "range") [.int a t, .int b u]) Q E s :=
  range2_rows F N fun h' tk t₁ u₁ v₁ hR F' _ hk => h _ h' tk t₁ u₁ v₁ F' (news_pushed F N hk hR rfl) fun p hp => Heap.lt_size (N p hp).1
theorem sortedKeyN {prog : Program} {w : World} {A : Around} {E : Value → Shared → Prop} {s : Shared} {h₀ : Heap} {L : Addr} {m : Str → Option Value} {news : List (Addr × Obj)} {r : Addr} {a b : Int} {t u v : Tok} {n : Nat} {f : Value} {kw : List (Str × Value)} {cs : List Nat} {Q : Value → Shared → Prop} (hh : A.handled = none) (F : Fr h₀ L s.heap m) (N : News h₀ L s.heap news) (hr : (r, rangeObj a b t u v) ∈ news) (hsm : Builtin.Range.small a b 1 = true) (hn : Builtin.Range.rangeSize a b 1 = (n : Int)) (h2 : 2 ≤ n) (h64 : n < 64)
    (ha1 : argsOk "sorted" ⟨[.ref r], kw⟩) (ha2 : ∀ x, argsOk "list.sort" ⟨[.ref x], kw⟩) (ht : ∀ x, Builtin.«list.sort» ⟨[.ref x], kw⟩ = ksk_tree x f false) (hcl : cs.length = n)
    (turn : ∀ (i : Nat) ti D kS e e1 (ks : List Value) h tk (C : Value → Shared → Prop), i < n → D < kS → (∀ q ∈ news, q.1 < D) → Fr h₀ L h m → News h₀ L h ((kS, listOf ks.toArray e) :: (D, listOf #[] e1) :: news) →
      (∀ k h' tk', Word k (cs.getD i 0) → Fr h₀ L h' m → News h₀ L h' ((kS, listOf ks.toArray e) :: (D, listOf #[] e1) :: news) → C k { s with heap := h', toks := tk' }) →
      wpAny (model prog w) A.in1.in1 (call f [.int (a + (i : Int)) ti]) C (fun _ _ => False) { s with heap := h, toks := tk })
    (done : ∀ D c h' tk us (p : List Nat), Fr h₀ L h' m → News h₀ L h' ((D, listOf us.toArray c) :: news) → (∀ q ∈ news, q.1 < D) → p.Perm (List.range n) → p.Pairwise (R fun i => cs.getD i 0) → IntsAre us (p.map fun i : Nat => a + (i : Int)) → Q (.ref D) { s with heap := h', toks := tk }) :
    wpAny (model prog w) A (call (.builtin "sorted") [.ref r] kw) Q E s := sortedKey hh F N (N _ hr).1 hsm hn h2 h64 ha1 ha2 ht hcl turn done
end Mine
namespace Mine
theorem all2_at {P : Value → Dm → Prop} {xs : List Value} {Z : List Dm} (h : All2 P xs Z) {j : Nat} {z : Dm} (hz : Z[j]? = some z) : ∃ y, xs[j]? = some y ∧ P y z := by
  have hl := h.len
  have hj : j < Z.length := by
    rcases Nat.lt_or_ge j Z.length with h | h
    · exact h
    · rw [List.getElem?_eq_none h] at hz; cases hz
  have hx : j < xs.length := by omega
  refine ⟨xs[j], List.getElem?_eq_getElem hx, ?_⟩
  have := h.get j hx hj
  rw [List.getElem?_eq_getElem hj] at hz
  cases hz
  exact this
theorem take_snoc {α : Type} {Z : List α} {i : Nat} {z : α} (h : Z[i]? = some z) : Z.take (i + 1) = Z.take i ++ [z] := by
  rw [List.take_add_one, h]; rfl
section
variable {prog : Program} {w : World} {A : Around} {h₀ : Heap} {L : Addr} {m : Str → Option Value} {env : Env} {elt : PySem.Expr} {x : Str} {scope : Scope} {cl : List (Str × Addr)} {s s₁ : Shared} {news : List (Addr × Obj)}
theorem compList {l : Addr} {c : Nat} {us : List Value} {os : List Int} {Z : List Dm} {Q : Value → Shared → Prop} (P : Value → Dm → Prop)
    (hh : A.handled = none) (F : Fr h₀ L s₁.heap m) (N : News h₀ L s₁.heap news) (hm : (l, listOf us.toArray c) ∈ news) (hI : IntsAre us os) (hz : Z.length = os.length) (hn : os.length ≤ 50)
    (turn : ∀ (i : Nat) k z t I oI C oC D m₂ ys g h tk (E' : Value → Shared → Prop), os[i]? = some k → Z[i]? = some z → LCg.NsObj oC m₂ → m₂ x = some (.int k t) → Fr h₀ L h m → News h₀ L h ((I, oI) :: (C, oC) :: (D, LCg.lst ys) :: news) → LCg.Off3 I C D news → ((@Ne Nat I C) ∧ (@Ne Nat I D) ∧ (@Ne Nat C D)) →
      wpAny (model prog w) A (eval elt (compEnvC scope cl C env)) (LCg.CompEnd h₀ L m { s₁ with heap := h, toks := tk } I oI C oC D (LCg.lst ys) (LCg.SrcAt h₀ l us.toArray) (fun y news' => news' = news ∧ P y z)) E' { ({ s₁ with heap := g } : Shared) with heap := h, toks := tk })
    (fin : ∀ ys, All2 P ys Z → ∀ D h tk, Fr h₀ L h m → News h₀ L h ((D, listOf ys.toArray ys.length) :: news) → LCg.Off1 D news → Q (.ref D) { s₁ with heap := h, toks := tk }) :
    LCg.CompSrc prog w A h₀ L m env elt x scope cl (fun s₂ => LCg.FinE h₀ L m s₂ Q) (.ref l) s₁ := by
  have hul : us.length = os.length := hI.length
  refine LCg.CompSrc.ledger hh F N hm (by rw [sizeLine_eq, List.size_toArray]; omega) fun g => ?_
  have key : ∀ (j i : Nat) (ys : List Value), i + j = os.length → All2 P ys (Z.take i) → LCg.CompRest prog w A h₀ L m env elt x scope cl { s₁ with heap := g } (LCg.SrcAt h₀ l us.toArray) (fun i v => us.toArray[i]? = some v) (LCg.FinE h₀ L m { s₁ with heap := g } Q) j i ys news := by
    intro j
    induction j with
    | zero =>
      intro i ys hi hP
      rw [List.take_of_length_le (by omega)] at hP
      refine LCg.CompRest.zero ?_
      intro D h tk F2 N2 off
      exact fin ys hP D h tk F2 N2 off
    | succ j ih =>
      intro i ys hi hP
      refine LCg.CompRest.succ ?_
      intro v I oI C oC D m₂ h tk E' hv hC hx F2 N2 off ne
      have hv' : us[i]? = some v := by simpa using hv
      have hi2 : i < os.length := by omega
      obtain ⟨k, t, rfl, hk⟩ := hI.at i v hv'
      have hzi : Z[i]? = some (Z[i]'(by omega)) := List.getElem?_eq_getElem (by omega)
      refine wpAny_mono (turn i k _ t I oI C oC D m₂ ys g h tk E' hk hzi hC hx F2 N2 off ne) (fun y s₂ hq => ?_) fun _ _ e => e
      obtain ⟨h', tk', nw', e, F', N', off', hS, e2, hPy⟩ := hq
      subst e2
      refine ⟨h', tk', _, e, F', N', off', hS, ih (i + 1) _ (by omega) ?_⟩
      rw [take_snoc hzi]
      exact hP.snoc hPy
  have := key os.length 0 [] (by omega) (by rw [List.take_zero]; exact .nil)
  rw [List.size_toArray, hul]
  exact this
theorem compRng {r : Addr} {b : Int} {t u v : Tok} {n : Nat} {Z : List Dm} {Q : Value → Shared → Prop} (P : Value → Dm → Prop)
    (hh : A.handled = none) (F : Fr h₀ L s₁.heap m) (N : News h₀ L s₁.heap news) (hr : IsRange s₁.heap r 0 b 1 t u v) (hb : b = (n : Int)) (hz : Z.length = n) (hn : n ≤ 50)
    (turn : ∀ (i : Nat) z t I oI C oC D m₂ ys g h tk (E' : Value → Shared → Prop), Z[i]? = some z → LCg.NsObj oC m₂ → m₂ x = some (.int (i : Int) t) → Fr h₀ L h m → News h₀ L h ((I, oI) :: (C, oC) :: (D, LCg.lst ys) :: news) → LCg.Off3 I C D news → ((@Ne Nat I C) ∧ (@Ne Nat I D) ∧ (@Ne Nat C D)) →
      wpAny (model prog w) A (eval elt (compEnvC scope cl C env)) (LCg.CompEnd h₀ L m { s₁ with heap := h, toks := tk } I oI C oC D (LCg.lst ys) (fun _ => True) (fun y news' => news' = news ∧ P y z)) E' { ({ s₁ with heap := g } : Shared) with heap := h, toks := tk })
    (fin : ∀ ys, All2 P ys Z → ∀ D h tk, Fr h₀ L h m → News h₀ L h ((D, listOf ys.toArray ys.length) :: news) → LCg.Off1 D news → Q (.ref D) { s₁ with heap := h, toks := tk }) :
    LCg.CompSrc prog w A h₀ L m env elt x scope cl (fun s₂ => LCg.FinE h₀ L m s₂ Q) (.ref r) s₁ := by
  subst hb
  have hsz : Builtin.Range.rangeSize 0 (n : Int) 1 = ((n : Nat) : Int) := by have := rangeSz (Nat.zero_le n); simpa using this
  have hsm : Builtin.Range.small 0 (n : Int) 1 = true := small_one (by omega) (by omega) (by omega) (by omega)
  refine LCg.CompSrc.range hh F N hr hsm (n := n) hsz (by rw [sizeLine_eq]; omega) fun g => ?_
  refine myRest (n := n) (a := 0) (fun i ys nw => nw = news ∧ All2 P ys (Z.take i)) ?_ ?_ n 0 [] news (by omega) ⟨rfl, by rw [List.take_zero]; exact .nil⟩
  · intro i t I oI C oC D m₂ ys nw h tk E' hi hJ hC hx F2 N2 off ne
    obtain ⟨rfl, hP⟩ := hJ
    rw [Int.zero_add] at hx
    have hzi : Z[i]? = some (Z[i]'(by omega)) := List.getElem?_eq_getElem (by omega)
    refine wpAny_mono (turn i _ t I oI C oC D m₂ ys g h tk E' hzi hC hx F2 N2 off ne) (fun y s₂ hq => ?_) fun _ _ e => e
    obtain ⟨h', tk', nw', e, F', N', off', hS, e2, hPy⟩ := hq
    refine ⟨h', tk', nw', e, F', N', off', hS, e2, ?_⟩
    rw [take_snoc hzi]
    exact hP.snoc hPy
  · intro ys nw hJ
    obtain ⟨rfl, hP⟩ := hJ
    rw [List.take_of_length_le (by omega)] at hP
    intro D h tk F2 N2 off
    exact fin ys hP D h tk F2 N2 off
end
theorem compEndL {h₀ h' : Heap} {L I C D l : Addr} {m : Str → Option Value} {s₁ : Shared} {oI oC oD : Obj} {tk : Nat} {news : List (Addr × Obj)} {us : List Value} {c : Nat} {P : Value → Prop} {y : Value} (F : Fr h₀ L h' m) (N : News h₀ L h' ((I, oI) :: (C, oC) :: (D, oD) :: news)) (off : LCg.Off3 I C D news) (hm : (l, listOf us.toArray c) ∈ news) (hP : P y) :
    LCg.CompEnd h₀ L m s₁ I oI C oC D oD (LCg.SrcAt h₀ l us.toArray) (fun y news' => news' = news ∧ P y) y { s₁ with heap := h', toks := tk } :=
  LCg.CompEnd.intro F N news (fun _ hp => hp) off (.inr ⟨_, hm, rfl, c, rfl⟩) ⟨rfl, hP⟩
theorem compEndR {h₀ h' : Heap} {L I C D : Addr} {m : Str → Option Value} {s₁ : Shared} {oI oC oD : Obj} {tk : Nat} {news : List (Addr × Obj)} {P : Value → Prop} {y : Value} (F : Fr h₀ L h' m) (N : News h₀ L h' ((I, oI) :: (C, oC) :: (D, oD) :: news)) (off : LCg.Off3 I C D news) (hP : P y) :
    LCg.CompEnd h₀ L m s₁ I oI C oC D oD (fun _ => True) (fun y news' => news' = news ∧ P y) y { s₁ with heap := h', toks := tk } :=
  LCg.CompEnd.intro F N news (fun _ hp => hp) off trivial ⟨rfl, hP⟩
def datZ (z : Dm) : Dat := .tuple [.str ⟨#[z.2.1]⟩, .int z.2.2]
theorem tups_dat {T : List (Addr × Obj)} {ys : List Value} {Z : List Dm} (h : All2 (Tup T) ys Z) : DatAll T ys (Z.map datZ) := by
  induction h with
  | nil => exact .nil
  | cons a _ ih =>
    obtain ⟨ad, t, t', rfl, hm⟩ := a
    exact .cons (.tuple (n := 0) hm (.cons (.str _ t) (.cons (.int _ t') .nil))) ih
theorem datZ_ok {z : Dm} (h : z.2.1 < 128) : kqdOk 8 (datZ z) = true := by
  unfold datZ kqdOk
  simp [kqdOk, PyData.strOk]
  omega
section
variable {prog : Program} {w : World} {A : Around} {E : Value → Shared → Prop} {s : Shared} {h₀ : Heap} {L a b : Addr} {news T : List (Addr × Obj)} {xs ys : List Value} {Z : List Dm} {ka kb : Nat} {Q : Value → Shared → Prop}
theorem eqTups (N : News h₀ L s.heap news) (ma : (a, listOf xs.toArray ka) ∈ news) (mb : (b, listOf ys.toArray kb) ∈ news) (hx : All2 (Tup T) xs Z) (hy : All2 (Tup T) ys Z) (hs : ∀ p ∈ T, p ∈ news) (hb : ∀ z ∈ Z, z.1 < 128 ∧ z.2.1 < 128) (hu : A.units + 64 < cLine) (h : Q (.bool true) s) :
    wpAny (model prog w) A (compareOp .Eq (.ref a) (.ref b)) Q E s := by
  have hk : ∀ d ∈ Z.map datZ, kqdOk 8 d = true := fun d hd => by
    obtain ⟨c, hc, rfl⟩ := List.mem_map.mp hd
    exact datZ_ok (hb c hc).2
  refine kqd_eq N ma rfl rfl (tups_dat hx) hs mb rfl rfl (tups_dat hy) hs hk hk hu ?_
  simpa using h
theorem eqWordsZ (N : News h₀ L s.heap news) (ma : (a, listOf xs.toArray ka) ∈ news) (mb : (b, listOf ys.toArray kb) ∈ news) (hx : All2 WordZ xs Z) (hy : All2 WordZ ys Z) (hb : ∀ z ∈ Z, z.1 < 128 ∧ z.2.1 < 128) (hu : A.units + 64 < cLine) (h : Q (.bool true) s) :
    wpAny (model prog w) A (compareOp .Eq (.ref a) (.ref b)) Q E s :=
  eqWords N ma mb (words_of hx) (words_of hy) (fun c hc => by
    obtain ⟨z, hz, rfl⟩ := List.mem_map.mp hc
    exact (hb z hz).1) hu h
end
/-- the order's numbers pick the row as the parts left it -/
theorem orderZ {Z S : List Dm} {cs p : List Nat} {bg st mn : Nat} (h1 : bg + 2 ≤ st) (h2 : st ≤ mn) (hl : Z.length = mn) (hc : Z.map (·.1) = cs) (hS : SS keyZ ((Z.drop bg).take (st - bg)) S) (hp : p.Perm (List.range (st - bg))) (hR : p.Pairwise (R fun i => ((cs.drop bg).take (st - bg)).getD i 0)) :
    (List.range bg ++ p.map (bg + ·) ++ (List.range (mn - st)).map (st + ·)).map (fun j => Z.getD j default) = Z.take bg ++ S ++ Z.drop (bg + (st - bg)) := by
  have hseg : ((Z.drop bg).take (st - bg)).length = st - bg := by rw [List.length_take, List.length_drop]; omega
  have e1 : (List.range bg).map (fun j => Z.getD j default) = Z.take bg := by
    apply List.ext_getElem (by simp; omega)
    intro i a b
    simp at a
    simp [show i < Z.length by omega]
  have e3 : ((List.range (mn - st)).map (st + ·)).map (fun j => Z.getD j default) = Z.drop st := by
    apply List.ext_getElem (by simp; omega)
    intro i a b
    simp at a
    simp [show st + i < Z.length by omega]
  have e2 : (p.map (bg + ·)).map (fun j => Z.getD j default) = S := by
    have h := SS.of_idx (key := keyZ) ((Z.drop bg).take (st - bg)) (fun i => ((cs.drop bg).take (st - bg)).getD i 0) (fun i hi => ?_) p (by rw [hseg]; exact hp) hR
    · rw [← h.uniq hS, List.map_map]
      refine List.map_congr_left fun i hi => ?_
      have hi2 : i < st - bg := by simpa using hp.mem_iff.mp hi
      simp only [Function.comp]
      rw [List.getD_eq_getElem?_getD, List.getD_eq_getElem?_getD, List.getElem?_take, if_pos hi2, List.getElem?_drop]
    · rw [hseg] at hi
      rw [getD_win _ _ _ hi, ← hc, List.getElem_take, List.getElem_drop]
      rw [List.getD_eq_getElem?_getD, List.getElem?_map, List.getElem?_eq_getElem (by omega)]
      rfl
  rw [List.map_append, List.map_append, e1, e2, e3, show bg + (st - bg) = st by omega]
theorem orderOs {p : List Nat} {bg st mn : Nat} : rangeKs 0 bg ++ p.map (fun i : Nat => (bg : Int) + (i : Int)) ++ rangeKs (st : Int) (mn - st) = (List.range bg ++ p.map (bg + ·) ++ (List.range (mn - st)).map (st + ·)).map (fun j : Nat => (j : Int)) := by
  simp only [rangeKs, List.map_append, List.map_map]
  congr 1
  · congr 1
    refine List.map_congr_left fun i _ => ?_
    simp
theorem orderAt {js : List Nat} {Z ZF : List Dm} (he : js.map (fun j => Z.getD j default) = ZF) (hb : ∀ j ∈ js, j < Z.length) {i : Nat} {k : Int} {z : Dm} (hk : (js.map (fun j : Nat => (j : Int)))[i]? = some k) (hz : ZF[i]? = some z) : ∃ j : Nat, k = (j : Int) ∧ Z[j]? = some z := by
  rw [List.getElem?_map] at hk
  rw [← he, List.getElem?_map] at hz
  cases e : js[i]? with
  | none => rw [e] at hk; cases hk
  | some j =>
    rw [e] at hk hz
    cases hk
    cases hz
    have hj := hb j (List.mem_of_getElem? e)
    refine ⟨j, rfl, ?_⟩
    show Z[j]? = some (Z.getD j default)
    rw [List.getD_eq_getElem?_getD, List.getElem?_eq_getElem hj]
    rfl
theorem unitsD (env : Env) : (callerA.deeper env).units + 64 < cLine := of_decide_eq_true rfl
theorem orderLt {Z : List Dm} {p : List Nat} {bg st mn : Nat} (h1 : bg + 2 ≤ st) (h2 : st ≤ mn) (hl : Z.length = mn) (hp : p.Perm (List.range (st - bg))) : ∀ j ∈ List.range bg ++ p.map (bg + ·) ++ (List.range (mn - st)).map (st + ·), j < Z.length := by
  intro j hj
  rcases List.mem_append.mp hj with hj | hj
  · rcases List.mem_append.mp hj with hj | hj
    · have := List.mem_range.mp hj; omega
    · obtain ⟨i, hi, rfl⟩ := List.mem_map.mp hj
      have := List.mem_range.mp (hp.mem_iff.mp hi); omega
  · obtain ⟨i, hi, rfl⟩ := List.mem_map.mp hj
    have := List.mem_range.mp hi; omega
theorem orderBnd {js : List Nat} {Z ZF : List Dm} (he : js.map (fun j => Z.getD j default) = ZF) (hb : ∀ j ∈ js, j < Z.length) (hZ : ∀ z ∈ Z, z.1 < 128 ∧ z.2.1 < 128) : ∀ z ∈ ZF, z.1 < 128 ∧ z.2.1 < 128 := by
  intro z hz
  rw [← he] at hz
  obtain ⟨j, hj, rfl⟩ := List.mem_map.mp hz
  have hl := hb j hj
  have e : Z.getD j default = Z[j] := by rw [List.getD_eq_getElem?_getD, List.getElem?_eq_getElem hl]; rfl
  rw [e]
  exact hZ _ (List.getElem_mem hl)
end Mine
namespace Mine
local macro_rules | `(tactic| walk_at "CompSrc") => `(tactic| (k_here; k_extra "my comp"))
local macro_rules | `(tactic| walk_at "CompSrc") => `(tactic| (k_here; (with_reducible show LCg.CompSrc _ _ _ _ _ _ _ (PySem.Expr.Subscript (PySem.Expr.Constant _ _ _) _ _) _ _ _ _ _ _); k_extra "my words"))
local macro_rules | `(tactic| walk_at "CompSrc") => `(tactic| (k_here; (with_reducible show LCg.CompSrc _ _ _ _ _ _ _ (PySem.Expr.Tuple _ _ _) _ _ _ _ _ _); k_extra "my items"))
local macro_rules | `(tactic| walk_at "CompEnd") => `(tactic| (k_here; k_extra "my end"))
local macro_rules | `(tactic| k_all) => `(tactic| first | assumption | (rename ItJ _ _ _ _ => jX; exact ItJ.off' jX (by k_mem)))
local macro_rules | `(tactic| walk_at "call builtin:len") => `(tactic| (k_here; (with_reducible show wpAny _ _ (call (Value.builtin "len") [Value.ref _]) _ _ _); k_dflt (refine' lenAny ?k1 ?k2 ?k4 ?_; (case k1 => k_asm); (case k2 => k_mem); (case k4 => omega); k_whole)))
local macro_rules | `(tactic| walk_at "subscriptTail Name Slice ref ref") => `(tactic| (k_here; (with_reducible show wpAny _ _ (subscriptTail _ (PySem.Expr.Slice _ _ none _) (Value.ref _) (Value.ref _)) _ _ _); k_dflt (refine' sliceAny ?F ?N ?l ?p ?q ?_ ?s ?t ?z; (case F => k_asm); (case N => k_asm); (case l => k_mem); (case p => kmk_part); (case q => kmk_part); (case s => with_unfolding_all rfl); (case t => kmk_pure); (case z => omega)); intro D' h' F' N' l1; (try simp only [pick_all] at N'); (try k_lt l1); (try k_sweep)))
local macro_rules | `(tactic| walk_at "truthy ref") => `(tactic| (k_here; k_dflt (refine' truthyPos ?N ?l ?p ?z ?_; (case N => k_asm); (case l => k_mem); (case p => omega); (case z => omega))))
local macro_rules | `(tactic| walk_at "call type:list") => `(tactic| (k_here; (with_reducible show wpAny _ _ (call (Value.type _) [Value.ref _]) _ _ _); k_dflt (refine' copyAny ?k1 ?k2 ?k3 ?z ?_; (case k1 => k_asm); (case k2 => k_asm); (case k3 => k_mem); (case z => omega); k_whole); intro D' c' h' F' N' l1; (try k_lt l1); (try k_sweep)))
local macro_rules | `(tactic| walk_at "call ref") => `(tactic| (k_here; k_extra "my call"))
local macro_rules | `(tactic| walk_at "binaryOp Mod int int") => `(tactic| (k_here; k_extra "my mod"))
local macro_rules | `(tactic| walk_at "exec If") => `(tactic| (k_here; k_extra "my if"))
local macro_rules | `(tactic| walk_at "IfPost") => `(tactic| (k_extra "my ifpost"))
local macro_rules | `(tactic| walk_at "call builtin:sorted") => `(tactic| (k_here; ksk_show; k_extra "my sorted"))
local macro_rules | `(tactic| walk_at "exec Return some") => `(tactic| (k_here; k_extra "my return"))
local macro_rules | `(tactic| walk_at "binaryOp Add ref ref") => `(tactic| (k_here; (with_reducible show wpAny _ _ (binaryOp _ (Value.ref _) (Value.ref _)) _ _ _); k_dflt (refine' kmk_add_ints ?F ?N ?a ?b ?i ?j ?_ ?z; (case F => k_asm); (case N => k_asm); (case a => kmk_list); (case b => kmk_list); (case i => l_ints); (case j => l_ints); (case z => (simp only [sizeLine_eq, List.length_map, List.length_append, rangeKs_length]; omega))); intro D' ws' h' F' N' l1 hI'; (try k_lt l1); (try k_sweep)))
local macro_rules | `(tactic| walk_at "call type:range") => `(tactic| (k_here; (with_reducible show wpAny _ _ (call _ [Value.int (Nat.cast _) _, Value.int (Nat.cast _) _]) _ _ _); k_extra "my range"))
local macro_rules | `(tactic| walk_at "subscriptTail") => `(tactic| (k_here; (with_reducible show wpAny _ _ (subscriptTail _ _ (Value.ref _) (Value.int (Nat.cast _) _)) _ _ _); k_dflt (refine' itemAt ?N ?m ?x ?z ?_ ?s; (case N => k_asm); (case m => k_mem); (case x => assumption); (case z => omega); (case s => with_unfolding_all rfl))))
local macro_rules | `(tactic| walk_at "compareOp Eq ref ref") => `(tactic| (k_extra "my eq"))
theorem range_nat {h : Heap} {r : Addr} {x : Int} {t u v : Tok} (_ : IsRange h r 0 (3 + x.fmod 7) 1 t u v) : ∃ mn : Nat, 3 + x.fmod 7 = (mn : Int) ∧ 3 ≤ mn ∧ mn ≤ 9 := by
  have h0 := Int.fmod_nonneg_of_pos x (b := 7) (by decide)
  have h1 := Int.fmod_lt_of_pos x (b := 7) (by decide)
  exact ⟨(3 + x.fmod 7).toNat, by omega, by omega, by omega⟩
theorem ints_some {ys : List Value} {l : List Int} (h : IntsAre ys l) : ∃ ds : List Int, IntsAre ys ds ∧ ds.length = l.length := ⟨l, h, rfl⟩
theorem lawW : PySem.Challenge.rw_ft0008_01.Holds := hd (by
  k_go0
  k_with_none
  k_with "my end" => (k_dflt (
    rename News _ _ _ _ => N9
    rename Fr _ _ _ _ => F9
    rename LCg.Off3 _ _ _ _ => off9
    first
    | exact wordEnd F9 N9 off9
    | (rename (_ < _) ∧ _ => l9
       rename ItJ _ _ _ _ => hJ9
       exact itemEnd F9 N9 off9 hJ9 l9)))
  k_with "my words" => (k_dflt ((
    rename IsRange _ _ _ _ _ _ _ _ => hR9
    rename News _ _ _ _ => N9
    rename Fr _ _ _ _ => F9
    rename IntsAre _ _ => hI9
    obtain ⟨mn, hmn, hm3, hm9⟩ := range_nat hR9
    rw [hmn] at hR9 F9 ⊢
    obtain ⟨ds, hds, hdl⟩ := ints_some hI9
    simp only [List.length_map, rangeKs_length] at hdl
    clear hI9
    refine compWords (n := mn) rfl F9 N9 hR9 rfl (by omega) ?wturn ?wfin
    case' wturn =>
      clear hR9 N9 F9
      intro i9 t9 I9 oI9 C9 oC9 D9 m9 ys9 g9 h9 tk9 E9 hi9 hC9 hx9 F9 N9 off9 ne9
      have off8 := off9
      simp only [LCg.Off3, and_true] at off8
    case' wfin =>
      clear hR9 N9 F9
      intro xs cs hW hcl hcb Dx hx9 tkx F9 N9 off8
      have hSR := sepOf N9 (by simp only [Apart, NeAll, and_true]; omega)
      have hSx := hSR.consNe (o := listOf xs.toArray xs.length) (off1_mem off8)
      simp only [LCg.Off1, and_true] at off8
      have hxl := hW.len)))
  k_with "my items" => (k_dflt ((
    rename IsRange _ _ _ _ _ _ _ _ => hR9
    rename News _ _ _ _ => N9
    rename Fr _ _ _ _ => F9
    refine compItems (n := mn) rfl F9 N9 hR9 rfl (by omega) ?iturn ?ifin
    case' iturn =>
      clear hR9 N9 F9
      intro i9 t9 I9 oI9 C9 oC9 D9 m9 ys9 T9 as9 g9 h9 tk9 E9 hi9 hJ9 hC9 hx9 F9 N9 off9 ne9
      simp only [List.cons_append, List.nil_append] at N9
      have off8 := off9
      simp only [LCg.Off3, List.cons_append, List.nil_append] at off8
    case' ifin =>
      clear hR9 N9 F9
      intro ys T as hJ hal Dy hy9 tky F9 N9 off8 off7
      have hSn := sepItems hJ (Sep.of_map hSx rfl)
      have hSy := hSn.consNe (o := listOf ys.toArray ys.length) (a := Dy) (fun q hq => (List.mem_append.mp hq).elim (off1_mem off8 q) (off7 q))
      simp only [List.cons_append, List.nil_append] at N9
      simp only [LCg.Off1, and_true] at off8
      have hyl := hJ.tups.len)))
  k_with "my call" => ((with_reducible show wpAny _ _ (call (Value.ref 266) _ _) _ _ _); k_dflt ((
    rename News _ _ _ _ => N9
    rename (_ < _) ∧ _ => l9
    refine newC2 (xs := xs) (ys := ys) (by omega) (by omega) (by omega) (by k_mem) ?nwhs (by k_asm) (by k_asm) (by k_asm) N9 (by k_asm) rfl ?nwd ?nwu ?nwr
    case' nwd => decide
    case' nwu => decide
    case' nwhs => exact Sep.cons (Sep.of_map hSy rfl) (ktn_ltOf l9)
    clear N9
    intro r9 n9 h9 tk9 hp9 F9 N9
    unfold newPost2 at hp9
    obtain ⟨vw, dvw, dw, u1, u2, u3, u4, ndw, e1, e2, hSw, kv1, kv2, kv3⟩ := hp9
    subst e1 e2
    simp only [AllLt] at kv1 kv2 kv3
    (try dsimp only)
    (try k_fold)
    clear hSR hSx hSn hSy off7 hmn)))
  k_with "my mod" => (with_reducible (refine modSkip (mn := mn) (bg := bg) hbg2 ?_); intro sk hsk2; (try dsimp only))
  k_with "my mod" => (with_reducible (refine modBegin (mn := mn) hm3 ?_); intro bg hbg2; (try dsimp only))
  k_with "my call" => ((with_reducible show wpAny _ _ (call (Value.ref 125) _) _ _ _); k_dflt ((
    obtain ⟨st, hst⟩ : ∃ st : Nat, st = bg + 2 + sk := ⟨_, rfl⟩
    rename News _ _ _ _ => N9
    rename Fr _ _ _ (fun _ => _) => F9
    rw [show (bg : Int) + 2 + (sk : Int) = (st : Int) by omega] at F9
    have hst1 : bg + 2 ≤ st := by omega
    have hst2 : st ≤ mn := by omega
    clear hst hsk2
    have hSw9 := sepNews N9 hSw rfl
    have N8 := toLed1 (off := 0) (to := u1) N9
    have hS8 := toSep1 (off := 0) (to := u1) hSw9
    clear N9 hSw hSw9
    refine tri_use (partC _ _ _ _ _ _ [] _ 0 mn _ _ _ hS8 (by omega) (by dsimp only; omega) (by dsimp only; omega) (by dsimp only; omega)) (by k_asm) F9 (by k_asm) N8 (by k_asm) rfl ?ptd ?ptu ?ptr
    case' ptd => decide
    case' ptu => decide
    clear N8 F9 hS8
    intro r9 n9 h9 tk9 hp9 F9 N9
    unfold partPost at hp9
    obtain ⟨c1, e1, hco, hcx, hcy, e2, hSc⟩ := hp9
    subst e1 e2
    obtain ⟨cv, cdv, cd, cit, coff, ct1, ct2, ct3, ct4, cto, cxs, cnd, cys, cni⟩ := c1
    dsimp only at hco hcx hcy
    rw [Nat.sub_zero, List.drop_zero, List.take_of_length_le (by omega)] at hcx hcy
    subst hco hcx hcy
    simp only [led, parOf, offOf, List.cons_append, List.nil_append] at N9 hSc
    (try dsimp only at N9 hSc)
    clear hds hdl
    (try dsimp only)
    (try k_fold)

    skip)))
  k_with "my ifpost" => (k_dflt ((
    rename News _ _ _ _ => N9
    rename Fr _ _ _ _ => F9
    first
    | exact ifDone F9 N9 hS9 hv9 ho9 hx9' hy9'
    | exact ifStay F9 (toLed2 N9) (toSep2 (sepNews N9 hSc rfl)) (by dsimp only; omega) (by rw [show bg = 0 by omega]; rfl) (by rw [show bg = 0 by omega]; rfl)
    | exact ifStay F9 (toLed2 N9) (toSep2 (sepNews N9 hSc rfl)) rfl (by rw [List.take_of_length_le (by rw [List.length_drop]; omega)]) (by rw [List.take_of_length_le (by rw [List.length_drop]; omega)]))))
  k_with "my if" => (
    (fail_if_success (with_reducible show wpAny _ _ _ (IfPost _ _ _ _ _ _ _ _ _ _ _) _ _))
    (with_reducible show wpAny _ _ (exec (PySem.Stmt.If (PySem.Expr.Name _ _) _ _ _) _) _ _ _)
    k_dflt ((
    rename News _ _ _ _ => N9
    rename Fr _ _ _ _ => F9
    refine ifMerge F9 (toLed2 (off2 := 0) (to2 := u1) N9) (bg : Int) (cxs.drop bg) (cys.drop bg) ?ifrun ?ifgo
    case' ifgo =>
      clear N9 F9
      intro c h9 tk9 hcv hco hcx hcy F9 N9 hS9
      obtain ⟨av, adv, ad, ait, aoff, at1, at2, at3, at4, ato, axs, and, ays, ani⟩ := c
      dsimp only at hcv hco hcx hcy
      subst hcv hco hcx hcy
      replace N9 := ofLed2 N9
      clear hSc
      have hSc := ofSep2 hS9
      clear hS9
      (try dsimp only)
      (try k_fold))))
  k_with "my if" => (
    (fail_if_success (with_reducible show wpAny _ _ _ (IfPost _ _ _ _ _ _ _ _ _ _ _) _ _))
    (with_reducible show wpAny _ _ (exec (PySem.Stmt.If (PySem.Expr.Compare _ _ _ _) _ _ _) _) _ _ _)
    k_dflt ((
    rename News _ _ _ _ => N9
    rename Fr _ _ _ _ => F9
    refine ifMerge F9 (toLed2 (off2 := 0) (to2 := u1) N9) (bg : Int) ((cxs.drop bg).take (st - bg)) ((cys.drop bg).take (st - bg)) ?ifrun2 ?ifgo2
    case' ifgo2 =>
      clear N9 F9 hSc
      intro c h9 tk9 hcv hco hcx hcy F9 N9 hS9
      obtain ⟨bv, bdv, bd, bit, boff, bt1, bt2, bt3, bt4, bto, bxs, bnd, bys, bni⟩ := c
      dsimp only at hcv hco hcx hcy
      subst hcv hco
      (try dsimp only)
      (try k_fold)
      skip)))
  k_with "my call" => ((with_reducible show wpAny _ _ (call (Value.ref 192) _) _ _ _); k_dflt ((
    rename News _ _ _ _ => N9
    rename Fr _ _ _ _ => F9
    refine tri_use (trimSC _ _ _ _ _ _ _ _ bg _ _ (toSep2 (sepNews N9 hSc rfl)) (by omega) (by dsimp only; omega) (by dsimp only; omega) (by dsimp only; omega) (by dsimp only; omega) (by dsimp only; omega)) (by k_asm) F9 (by k_asm) (toLed2 (off2 := 0) (to2 := u1) N9) (by k_asm) rfl ?tsd ?tsu ?tsr
    case' tsd => decide
    case' tsu => decide
    clear N9 F9
    intro r9 n9 h9 tk9 hp9 F9 N9
    unfold trimPost at hp9
    obtain ⟨e1, c2, hv9, ho9, hx9', hy9', e2, hS9⟩ := hp9
    subst e1 e2
    dsimp only at ho9 hx9' hy9'
    replace ho9 : c2.off = (bg : Int) := by omega
    (try dsimp only)
    (try k_fold))))
  k_with "my call" => ((with_reducible show wpAny _ _ (call (Value.ref 200) _) _ _ _); k_dflt ((
    rename News _ _ _ _ => N9
    rename Fr _ _ _ _ => F9
    rw [show (mn : Int) - (st : Int) = ((mn - st : Nat) : Int) by omega]
    refine tri_use (trimEC _ _ _ _ _ _ _ _ (mn - st) _ _ (toSep2 (sepNews N9 hSc rfl)) (by omega) (by dsimp only; rw [List.length_drop]; omega) (by dsimp only; rw [List.length_drop, List.length_drop]; omega) (by dsimp only; rw [List.length_drop]; omega)) (by k_asm) F9 (by k_asm) (toLed2 (off2 := 0) (to2 := u1) N9) (by k_asm) rfl ?ted ?teu ?ter
    case' ted => decide
    case' teu => decide
    clear N9 F9
    intro r9 n9 h9 tk9 hp9 F9 N9
    unfold trimPost at hp9
    obtain ⟨e1, c2, hv9, ho9, hx9', hy9', e2, hS9⟩ := hp9
    subst e1 e2
    dsimp only at ho9 hx9' hy9'
    rw [show (cxs.drop bg).length - (mn - st) = st - bg by rw [List.length_drop]; omega] at hx9'
    rw [show (cys.drop bg).length - (mn - st) = st - bg by rw [List.length_drop]; omega] at hy9'
    (try dsimp only)
    (try k_fold))))
  k_with "my call" => ((with_reducible show wpAny _ _ (call (Value.ref 278) _) _ _ _); k_dflt ((
    rename News _ _ _ _ => N9
    rename Fr _ _ _ _ => F9
    rw [show (st : Int) - (bg : Int) = ((st - bg : Nat) : Int) by omega]
    obtain ⟨N10, hS10⟩ := swap9 N9 hS9
    obtain ⟨Z, hZb, hG, hWZ, hYZ, hZl, hZc⟩ := lawStart (bg := bg) (st := st) (REST := T) N9 hW hJ (fun _ hp => hp) hcl hal hcb (by omega) hst1 hst2 rfl hcx hcy rfl rfl rfl
    refine tri_use (lo_all _ _ _ _ _ _ (st - bg) _ _ [] T _ Z _ bg _ _ hZb (by omega) hS10 hG) (by k_asm) F9 (by k_asm) N10 (by k_asm) rfl ?lod ?lou ?lor
    case' lod => exact Nat.lt_of_le_of_lt (Nat.add_le_add_left (show 40 + 10 * ([] : List Lv).length + 20 * (st - bg) ≤ 240 by rw [List.length_nil]; omega) _) (by decide)
    case' lou => exact Nat.lt_of_le_of_lt (Nat.add_le_add_left (show 200 + 50 * ([] : List Lv).length + 100 * (st - bg) ≤ 1200 by rw [List.length_nil]; omega) _) (by decide)
    clear hS10 N10 hS9 N9 F9 hG
    intro r9 n9 h9 tk9 hp9 F9 N9
    obtain ⟨e1, wxs, wnd, wys, wni, T9, S9, hSS, hwx, hwy, hTT, hSep, hsub⟩ := lawMid hp9
    subst e1
    replace N9 := newsSub N9 hsub
    clear hsub hp9
    have h280 := sepLast hSep (by simp only [List.mem_cons, true_or, or_true] : (280, tabObj #[]) ∈ _)
    simp only [List.cons_append, List.nil_append] at N9
    clear hSep
    (try dsimp only)
    (try k_fold)

    clear hcx hcy)))
  k_with "my range" => ((with_reducible show wpAny _ _ (call _ [Value.int (Nat.cast bg) _, _]) _ _ _); k_dflt ((
    rename News _ _ _ _ => N9
    rename Fr _ _ _ _ => F9
    refine range2L F9 N9 ?_
    clear N9 F9
    intro r9 h9 tk9 tr1 tr2 tr3 F9 N9 l9
    (try k_lt l9)
    (try dsimp only)
    (try k_fold))))
  k_with "my sorted" => (k_dflt ((
    rename News _ _ _ _ => N9
    rename Fr _ _ _ _ => F9
    refine sortedKeyN (n := st - bg) (cs := (cs.drop bg).take (st - bg)) rfl F9 N9 (by k_mem) ?srsm ?srsz (by omega) (by omega) (by ksk_a1) (by intro _; ksk_a2) (by intro _; ksk_a3) ?srcl ?srturn ?srdone
    case' srsm => exact small_one (by omega) (by omega) (by omega) (by omega)
    case' srsz => exact rangeSz (by omega)
    case' srcl => rw [List.length_take, List.length_drop]; omega
    case' srturn =>
      clear N9 F9
      intro i9 ti D9 kS9 e9 e19 ks9 h9 tk9 C9 hi9 l0 l1 F9 N9 ret9
      obtain ⟨y9, hy9, hw9⟩ := words_at hW (i := bg + i9) (by omega)
      have hc9 : ((cs.drop bg).take (st - bg)).getD i9 0 = cs.getD (bg + i9) 0 := getD_win _ _ _ hi9
      rw [← hc9] at hw9
      clear hc9
      rw [show (bg : Int) + (i9 : Int) = ((bg + i9 : Nat) : Int) by omega]
      (try k_fold)
      k_steps
      rename News (ghostOf _ _) _ _ _ => N8
      rename Fr (ghostOf _ _) _ _ _ => F8
      exact ret9 _ _ _ hw9 F8 N8
    case' srdone =>
      clear N9 F9
      intro D9 c9 h9 tk9 us9 p9 F9 N9 l9 hp9 hRp hIu
      have hpl : p9.length = st - bg := by rw [hp9.length_eq, List.length_range]
      (try k_lt l9)
      (try dsimp only)
      (try k_fold)
      skip)))
  k_with "my return" => (k_dflt (
    rename IntsAre _ (_ ++ _ ++ _) => hO
    rw [show ((bg : Int) - 0).toNat = bg by omega, show ((mn : Int) - (st : Int)).toNat = mn - st by omega, orderOs] at hO
    have hZF := orderZ hst1 hst2 hZl hZc hSS hp9 hRp
    have hjs : ∀ j ∈ List.range bg ++ p9.map (bg + ·) ++ (List.range (mn - st)).map (st + ·), j < Z.length := orderLt hst1 hst2 hZl hp9
    have hjl : (List.range bg ++ p9.map (bg + ·) ++ (List.range (mn - st)).map (st + ·)).length = mn := by
      simp only [List.length_append, List.length_map, List.length_range, hpl]; omega
    generalize (List.range bg ++ p9.map (bg + ·) ++ (List.range (mn - st)).map (st + ·)) = js at hO hZF hjs hjl
    generalize (Z.take bg ++ S9 ++ Z.drop (bg + (st - bg))) = ZF at hwx hwy hZF
    have hZFl : ZF.length = mn := by rw [← hZF, List.length_map, hjl]
    have hZFb : ∀ z ∈ ZF, z.1 < 128 ∧ z.2.1 < 128 := orderBnd hZF hjs hZb.2
    have hjl2 : (js.map (fun j : Nat => (j : Int))).length = mn := by rw [List.length_map, hjl]
    have hcxl : cxs.length = mn := by rw [hWZ.len, hZl]
    have hcyl : cys.length = mn := by rw [hYZ.len, hZl]
    have hwyl : wys.length = mn := by rw [hwy.len, hZFl]
    clear hSS hp9 hRp hIu hpl hZb hZc hW hJ hcb hxl hyl))
  k_with "my end" => (k_dflt ((
    rename News _ _ _ _ => N9
    rename Fr _ _ _ _ => F9
    first
    | exact compEndL F9 N9 off9 (by k_mem) hP9
    | exact compEndR F9 N9 off9 hP9)))
  k_with "my eq" => ((fail_if_success (have := hB9)); k_dflt ((
    rename News _ _ _ _ => N9
    refine eqWordsZ N9 (by k_mem) (by k_mem) hwx hA9 hZFb (unitsD _) ?_)))
  k_with "my eq" => ((have := hB9); k_dflt ((
    rename News _ _ _ _ => N9
    refine eqTups N9 (by k_mem) (by k_mem) hB9 hD9 (by intro p hp; repeat (first | exact hp | apply List.mem_cons_of_mem)) hZFb (unitsD _) ?_)))
  k_with "my comp" => ((with_reducible show LCg.CompSrc _ _ _ _ _ _ _ (PySem.Expr.Subscript (PySem.Expr.Name (PySem.Str.ofString "words") _) _ _) _ _ _ _ _ _); k_dflt ((
    rename News _ _ _ _ => N9
    rename Fr _ _ _ _ => F9
    refine compList (Z := ZF) WordZ rfl F9 N9 (by k_mem) hO (by omega) (by omega) ?aturn ?afin
    case' aturn =>
      clear N9 F9
      intro i9 k9 z9 t9 I9 oI9 C9 oC9 D9 m9 ys9 g9 h9 tk9 E9 hk9 hz9 hC9 hx9 F9 N9 off9 ne9
      obtain ⟨j9, e9, hj9⟩ := orderAt hZF hjs hk9 hz9
      subst e9
      obtain ⟨y9, hy9, hP9⟩ := all2_at hWZ hj9
      have off8 := off9
      simp only [LCg.Off3, and_true] at off8
    case' afin =>
      clear N9 F9
      intro ysA hA9 DA hx9 tkx F9 N9 off8
      simp only [LCg.Off1, and_true] at off8)))
  k_with "my comp" => ((with_reducible show LCg.CompSrc _ _ _ _ _ _ _ (PySem.Expr.Call _ _ _ _) _ _ _ _ _ _); k_dflt ((
    rename News _ _ _ _ => N9
    rename Fr _ _ _ _ => F9
    rename IsRange _ _ _ _ _ _ _ _ => hR9
    refine compRng (n := mn) (Z := ZF) (Tup T9) rfl F9 N9 hR9 rfl (by omega) (by omega) ?bturn ?bfin
    case' bturn =>
      clear N9 F9
      intro i9 z9 t9 I9 oI9 C9 oC9 D9 m9 ys9 g9 h9 tk9 E9 hz9 hC9 hx9 F9 N9 off9 ne9
      obtain ⟨y9, hy9, hP9⟩ := all2_at hwy hz9
      have off8 := off9
      simp only [LCg.Off3, and_true] at off8
    case' bfin =>
      clear N9 F9
      intro ysB hB9 DB hx9 tkx F9 N9 off8
      simp only [LCg.Off1, and_true] at off8)))
  k_with "my comp" => ((with_reducible show LCg.CompSrc _ _ _ _ _ _ _ (PySem.Expr.Subscript (PySem.Expr.Name (PySem.Str.ofString "items") _) _ _) _ _ _ _ _ _); k_dflt ((
    rename News _ _ _ _ => N9
    rename Fr _ _ _ _ => F9
    refine compList (Z := ZF) (Tup T) rfl F9 N9 (by k_mem) hO (by omega) (by omega) ?cturn ?cfin
    case' cturn =>
      clear N9 F9
      intro i9 k9 z9 t9 I9 oI9 C9 oC9 D9 m9 ys9 g9 h9 tk9 E9 hk9 hz9 hC9 hx9 F9 N9 off9 ne9
      obtain ⟨j9, e9, hj9⟩ := orderAt hZF hjs hk9 hz9
      subst e9
      obtain ⟨y9, hy9, hP9⟩ := all2_at hYZ hj9
      have off8 := off9
      simp only [LCg.Off3, and_true] at off8
    case' cfin =>
      clear N9 F9
      intro ysC hC9 DC hx9 tkx F9 N9 off8
      have hD9 : All2 (Tup T9) ysC ZF := hC9.mono fun _ _ q => q.mono hTT
      simp only [LCg.Off1, and_true] at off8)))
  k_steps)
end Mine
theorem PySem.Challenge.cw_ft0008_01_holds : PySem.Challenge.rw_ft0008_01.Holds :=
  Mine.lawW
