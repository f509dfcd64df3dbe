import PyProof.Rows.All
import Wide.All
import OpenK.AllK
import Wide.FinOn
import PySem.Challenge.RW_pg0063_01
open PySem PySem.W PyProof.Rows
set_option Elab.async false
set_option maxRecDepth 100000
set_option maxHeartbeats 8000000
namespace Mine
open_top hd for PySem.Challenge.rw_pg0063_01
theorem fill0 : PySem.Challenge.rw_pg0063_01 = PySem.Challenge.rw_pg0063_01 ∧ Mine.hd.heap_39 = Mine.hd.heap_39 := by k_fill; exact ⟨rfl, rfl⟩
end Mine
namespace Mine
open PySem PySem.W PySem.Spec PySem.Calls PyProof.Rows
local macro_rules | `(tactic| walk_at $s:str) => `(tactic| k_extra $s)

/-! part PgA -/
/-! the ledger, entry by entry -/
def upd (D : Addr) (o : Obj) (news : List (Addr × Obj)) : List (Addr × Obj) := news.map fun q => if q.1 = D then (D, o) else q
def off (D : Addr) (news : List (Addr × Obj)) : List (Addr × Obj) := news.filter fun q => !decide (q.1 = D)
theorem off_ne {D : Addr} {news : List (Addr × Obj)} : ∀ q ∈ off D news, q.1 ≠ D := fun q hq => by
  have := (List.mem_filter.mp hq).2
  simpa using this
theorem mem_off {D : Addr} {news : List (Addr × Obj)} {q : Addr × Obj} (h : q ∈ news) (hne : q.1 ≠ D) : q ∈ off D news := List.mem_filter.mpr ⟨h, by simpa using hne⟩
theorem mem_upd_ne {D a : Addr} {o o' : Obj} {news : List (Addr × Obj)} (h : (a, o) ∈ news) (hne : a ≠ D) : (a, o) ∈ upd D o' news :=
  List.mem_map.mpr ⟨(a, o), h, if_neg hne⟩
theorem mem_upd_self {D : Addr} {o o' : Obj} {news : List (Addr × Obj)} (h : (D, o) ∈ news) : (D, o') ∈ upd D o' news :=
  List.mem_map.mpr ⟨(D, o), h, if_pos rfl⟩
theorem newsSub {h₀ h : Heap} {L : Addr} {news news' : List (Addr × Obj)} (N : News h₀ L h news) (hs : ∀ p ∈ news', p ∈ news) : News h₀ L h news' := fun p hp => N p (hs p hp)
theorem newsUpd {h₀ h : Heap} {L D : Addr} {o' : Obj} {front news : List (Addr × Obj)} (N : News h₀ L h (front ++ (D, o') :: off D news)) : News h₀ L h (upd D o' news) := fun q hq => by
  obtain ⟨p, hp, rfl⟩ := List.mem_map.mp hq
  by_cases e : p.1 = D
  · rw [if_pos e]; exact N _ (List.mem_append_right _ (.head _))
  · rw [if_neg e]; exact N _ (List.mem_append_right _ (.tail _ (mem_off hp e)))
theorem apart {h₀ h : Heap} {L a b : Addr} {o o' : Obj} {news : List (Addr × Obj)} (N : News h₀ L h news) (ha : (a, o) ∈ news) (hb : (b, o') ∈ news) (hne : o.cls ≠ o'.cls) : a ≠ b := fun e => by
  have h1 := (N _ ha).1
  have h2 := (N _ hb).1
  dsimp only at h1 h2
  rw [e, h2] at h1
  exact hne (by rw [Option.some.inj h1])
local macro_rules | `(tactic| k_all) => `(tactic| assumption)
local macro_rules | `(tactic| k_room) => `(tactic| ktr_room)
/-- the dict of a lexer -/
abbrev lexDict (P : Params) (t1 t2 t3 t4 t5 : Tok) (ln : Value) (str : Value) (p : Addr) : Obj :=
  dictOf [⟨PyData.keyHash P (Str.ofString "lineno"), .str (Str.ofString "lineno") t1, ln⟩, ⟨PyData.keyHash P (Str.ofString "instream"), .str (Str.ofString "instream") t2, str⟩,
    ⟨PyData.keyHash P (Str.ofString "whitespace"), .str (Str.ofString "whitespace") t3, .str (Str.ofString "\n\t\u000d ") t5⟩, ⟨PyData.keyHash P (Str.ofString "pushback"), .str (Str.ofString "pushback") t4, .ref p⟩] 4
section
variable {prog : Program} {w : World} {A : Around} {E : Value → Shared → Prop} {s : Shared} {h₀ : Heap} {L D : Addr} {m : Str → Option Value} {news news' : List (Addr × Obj)} {n : Nat}
theorem pop0 {v : Value} {ws : List Value} {u : Tok} {Q : Value → Shared → Prop} (F : Fr h₀ L s.heap m) (N : News h₀ L s.heap news) (U : Upd D (listOf (v :: ws).toArray n) (listOf ws.toArray (n + 1)) news news') (hz : ws.length ≤ 1000)
    (h : ∀ h', Fr h₀ L h' m → News h₀ L h' news' → Q v { s with heap := h' }) : wpAny (model prog w) A (call (.builtin "list.pop") [.ref D, .int 0 u]) Q E s :=
  kl_popAt (p := []) (q := ws) (k := 0) F N rfl (by unfold seqIndex?; simp) rfl U (by simp only [List.length_cons]; rw [sizeLine_eq]; omega) h
theorem truthyCons {v : Value} {ws : List Value} {Q : Bool → Shared → Prop} (N : News h₀ L s.heap news) (hm : (D, listOf (v :: ws).toArray n) ∈ news) (hz : ws.length ≤ 1000)
    (h : Q true { s with toks := s.toks + 1 + 1 }) : wpAny (model prog w) A (truthy (.ref D)) Q E s :=
  wpAny_truthy_list (News.isList N hm) (by simp only [List.size_toArray, List.length_cons]; omega) (by simpa using h)
end
section
variable {prog : Program} {w : World} {p : Program} {loose : List Str} {mean : ExcName → Option Value} {mg mb : Str → Option Value}
    {dp un : Nat} {gd : Option (List Code)} {cn : Str} {cs : Scope} {a : Addr} {ccd : Value} {cl : List (Str × Addr)} {outer : List Env} {A₀ : Around} {base h₀ : Heap} {L : Addr} {m : Str → Option Value} {s : Shared} {Q E : Value → Shared → Prop} {news : List (Addr × Obj)}
theorem push_c {r d pb : Addr} {t1 t2 t3 t4 t5 : Tok} {ln str tok : Value} {ws : List Value} {n : Nat} {rest : List (Addr × Obj)}
    (B : Below A₀ base outer h₀) (F : Fr h₀ L s.heap m) (X : (Mine.hd.heap_39 w.params).In h₀) 
    (N : News h₀ L s.heap ((r, instObj 52 d) :: (d, lexDict w.params t1 t2 t3 t4 t5 ln str pb) :: (pb, listOf ws.toArray n) :: rest)) (T : Top p loose mean mg mb h₀) (hk : cs.kind = .function)
    (hrp : r ≠ pb) (hdp' : d ≠ pb) (hrest : ∀ q ∈ rest, q.1 ≠ pb) (hws : ws.length ≤ 1000)
    (hdp : dp + 1 < recursionLimit) (hun : un + 8 < cLine)
    (hret : ∀ (h' : Heap) (tk' : Nat), Fr h₀ L h' m → News h₀ L h' ((r, instObj 52 d) :: (d, lexDict w.params t1 t2 t3 t4 t5 ln str pb) :: (pb, listOf (ws ++ [tok]).toArray (n + 1)) :: rest) → Q .none { s with heap := h', toks := tk' }) :
    wpAny (model prog w) (ktrTop dp un gd cn cs L a ccd cl outer) (call (.ref 49) [.ref r, tok]) Q E s := by
  k_with_none
  w_top off
  k_with "call builtin:list.pop" => (k_here; (with_reducible show wpAny _ _ (call (Value.builtin _) [Value.ref _, Value.int 0 _]) _ _ _); k_dflt (refine pop0 (by k_asm) (by k_asm) (by k_upd) (by assumption) ?_); intro _ _ _)
  k_with "truthy ref" => (k_here; k_dflt (refine truthyCons (by k_asm) (by k_mem) (by assumption) ?_); (try rw [if_pos rfl]))
  refine wpAny_call ?_
  k_dflt cell_enter
  k_steps
  refine hret _ _ (by k_asm) ?_
  (rename News h₀ L _ _ => kN)
  simpa only [List.push_toArray] using kN
theorem push_t {r d pb : Addr} {t1 t2 t3 t4 t5 : Tok} {ln str tok : Value} {ws : List Value} {n : Nat}
    (B : Below A₀ base outer h₀) (F : Fr h₀ L s.heap m) (X : (Mine.hd.heap_39 w.params).In h₀) (N : News h₀ L s.heap news) (T : Top p loose mean mg mb h₀) (hk : cs.kind = .function)
    (m1 : (r, instObj 52 d) ∈ news) (m2 : (d, lexDict w.params t1 t2 t3 t4 t5 ln str pb) ∈ news) (m3 : (pb, listOf ws.toArray n) ∈ news) (hws : ws.length ≤ 1000)
    (hdp : dp + 1 < recursionLimit) (hun : un + 8 < cLine)
    (hret : ∀ (h' : Heap) (tk' : Nat), Fr h₀ L h' m → News h₀ L h' (upd pb (listOf (ws ++ [tok]).toArray (n + 1)) news) → Q .none { s with heap := h', toks := tk' }) :
    wpAny (model prog w) (ktrTop dp un gd cn cs L a ccd cl outer) (call (.ref 49) [.ref r, tok]) Q E s :=
  push_c (rest := off pb news) B F X (by
      intro q hq
      rcases List.mem_cons.mp hq with rfl | hq
      · exact N _ m1
      rcases List.mem_cons.mp hq with rfl | hq
      · exact N _ m2
      rcases List.mem_cons.mp hq with rfl | hq
      · exact N _ m3
      · exact N _ (List.mem_filter.mp hq).1) T hk (apart N m1 m3 (by simp)) (apart N m2 m3 (by simp)) off_ne hws hdp hun
    fun h' tk' F' N' => hret h' tk' F' (newsUpd (front := [_, _]) N')
theorem get_c {r d pb : Addr} {t1 t2 t3 t4 t5 : Tok} {ln str v : Value} {ws : List Value} {n : Nat} {rest : List (Addr × Obj)}
    (B : Below A₀ base outer h₀) (F : Fr h₀ L s.heap m) (X : (Mine.hd.heap_39 w.params).In h₀) 
    (N : News h₀ L s.heap ((r, instObj 52 d) :: (d, lexDict w.params t1 t2 t3 t4 t5 ln str pb) :: (pb, listOf (v :: ws).toArray n) :: rest)) (T : Top p loose mean mg mb h₀) (hk : cs.kind = .function)
    (hrp : r ≠ pb) (hdp' : d ≠ pb) (hrest : ∀ q ∈ rest, q.1 ≠ pb) (hws : ws.length ≤ 1000)
    (hdp : dp + 1 < recursionLimit) (hun : un + 8 < cLine)
    (hret : ∀ (h' : Heap) (tk' : Nat), Fr h₀ L h' m → News h₀ L h' ((r, instObj 52 d) :: (d, lexDict w.params t1 t2 t3 t4 t5 ln str pb) :: (pb, listOf ws.toArray (n + 1)) :: rest) → Q v { s with heap := h', toks := tk' }) :
    wpAny (model prog w) (ktrTop dp un gd cn cs L a ccd cl outer) (call (.ref 42) [.ref r]) Q E s := by
  k_with_none
  w_top off
  k_with "call builtin:list.pop" => (k_here; (with_reducible show wpAny _ _ (call (Value.builtin _) [Value.ref _, Value.int 0 _]) _ _ _); k_dflt (refine pop0 (by k_asm) (by k_asm) (by k_upd) (by assumption) ?_); intro _ _ _)
  k_with "truthy ref" => (k_here; k_dflt (refine truthyCons (by k_asm) (by k_mem) (by assumption) ?_); (try rw [if_pos rfl]))
  refine wpAny_call ?_
  k_dflt cell_enter
  k_steps
  exact hret _ _ (by k_asm) (by k_asm)
theorem get_t {r d pb : Addr} {t1 t2 t3 t4 t5 : Tok} {ln str v : Value} {ws : List Value} {n : Nat}
    (B : Below A₀ base outer h₀) (F : Fr h₀ L s.heap m) (X : (Mine.hd.heap_39 w.params).In h₀) (N : News h₀ L s.heap news) (T : Top p loose mean mg mb h₀) (hk : cs.kind = .function)
    (m1 : (r, instObj 52 d) ∈ news) (m2 : (d, lexDict w.params t1 t2 t3 t4 t5 ln str pb) ∈ news) (m3 : (pb, listOf (v :: ws).toArray n) ∈ news) (hws : ws.length ≤ 1000)
    (hdp : dp + 1 < recursionLimit) (hun : un + 8 < cLine)
    (hret : ∀ (h' : Heap) (tk' : Nat), Fr h₀ L h' m → News h₀ L h' (upd pb (listOf ws.toArray (n + 1)) news) → Q v { s with heap := h', toks := tk' }) :
    wpAny (model prog w) (ktrTop dp un gd cn cs L a ccd cl outer) (call (.ref 42) [.ref r]) Q E s :=
  get_c (rest := off pb news) B F X (by
      intro q hq
      rcases List.mem_cons.mp hq with rfl | hq
      · exact N _ m1
      rcases List.mem_cons.mp hq with rfl | hq
      · exact N _ m2
      rcases List.mem_cons.mp hq with rfl | hq
      · exact N _ m3
      · exact N _ (List.mem_filter.mp hq).1) T hk (apart N m1 m3 (by simp)) (apart N m2 m3 (by simp)) off_ne hws hdp hun
    fun h' tk' F' N' => hret h' tk' F' (newsUpd (front := [_, _]) N')
theorem lt_t {x y : Int} {t u : Tok}
    (B : Below A₀ base outer h₀) (F : Fr h₀ L s.heap m) (X : (Mine.hd.heap_39 w.params).In h₀) (N : News h₀ L s.heap news) (T : Top p loose mean mg mb h₀) (hk : cs.kind = .function)
    (hdp : dp + 1 < recursionLimit) (hun : un + 8 < cLine)
    (hret : ∀ (h' : Heap) (tk' : Nat), Fr h₀ L h' m → News h₀ L h' news → Q (.bool (decide (x < y))) { s with heap := h', toks := tk' }) :
    wpAny (model prog w) (ktrTop dp un gd cn cs L a ccd cl outer) (call (.ref 63) [.int x t, .int y u]) Q E s := by
  k_with_none
  w_top off
  k_with "call builtin:list.pop" => (k_here; (with_reducible show wpAny _ _ (call (Value.builtin _) [Value.ref _, Value.int 0 _]) _ _ _); k_dflt (refine pop0 (by k_asm) (by k_asm) (by k_upd) (by assumption) ?_); intro _ _ _)
  k_with "truthy ref" => (k_here; k_dflt (refine truthyCons (by k_asm) (by k_mem) (by assumption) ?_); (try rw [if_pos rfl]))
  refine wpAny_call ?_
  k_dflt cell_enter
  k_steps
  exact hret _ _ (by k_asm) (by k_asm)
theorem eq_t {x y : Str} {t u : Tok}
    (B : Below A₀ base outer h₀) (F : Fr h₀ L s.heap m) (X : (Mine.hd.heap_39 w.params).In h₀) (N : News h₀ L s.heap news) (T : Top p loose mean mg mb h₀) (hk : cs.kind = .function)
    (hdp : dp + 1 < recursionLimit) (hun : un + 8 < cLine)
    (hret : ∀ (h' : Heap) (tk' : Nat), Fr h₀ L h' m → News h₀ L h' news → Q (.bool (decide (x = y))) { s with heap := h', toks := tk' }) :
    wpAny (model prog w) (ktrTop dp un gd cn cs L a ccd cl outer) (call (.ref 70) [.str x t, .str y u]) Q E s := by
  k_with_none
  w_top off
  k_with "call builtin:list.pop" => (k_here; (with_reducible show wpAny _ _ (call (Value.builtin _) [Value.ref _, Value.int 0 _]) _ _ _); k_dflt (refine pop0 (by k_asm) (by k_asm) (by k_upd) (by assumption) ?_); intro _ _ _)
  k_with "truthy ref" => (k_here; k_dflt (refine truthyCons (by k_asm) (by k_mem) (by assumption) ?_); (try rw [if_pos rfl]))
  refine wpAny_call ?_
  k_dflt cell_enter
  k_steps
  exact hret _ _ (by k_asm) (by k_asm)
theorem add_t {x y : Int} {t u : Tok}
    (B : Below A₀ base outer h₀) (F : Fr h₀ L s.heap m) (X : (Mine.hd.heap_39 w.params).In h₀) (N : News h₀ L s.heap news) (T : Top p loose mean mg mb h₀) (hk : cs.kind = .function)
    (hdp : dp + 1 < recursionLimit) (hun : un + 8 < cLine)
    (hret : ∀ (t' : Tok) (h' : Heap) (tk' : Nat), Fr h₀ L h' m → News h₀ L h' news → Q (.int (x + y) t') { s with heap := h', toks := tk' }) :
    wpAny (model prog w) (ktrTop dp un gd cn cs L a ccd cl outer) (call (.ref 77) [.int x t, .int y u]) Q E s := by
  k_with_none
  w_top off
  k_with "call builtin:list.pop" => (k_here; (with_reducible show wpAny _ _ (call (Value.builtin _) [Value.ref _, Value.int 0 _]) _ _ _); k_dflt (refine pop0 (by k_asm) (by k_asm) (by k_upd) (by assumption) ?_); intro _ _ _)
  k_with "truthy ref" => (k_here; k_dflt (refine truthyCons (by k_asm) (by k_mem) (by assumption) ?_); (try rw [if_pos rfl]))
  refine wpAny_call ?_
  k_dflt cell_enter
  k_steps
  exact hret _ _ _ (by k_asm) (by k_asm)
theorem sub_t {x y : Int} {t u : Tok}
    (B : Below A₀ base outer h₀) (F : Fr h₀ L s.heap m) (X : (Mine.hd.heap_39 w.params).In h₀) (N : News h₀ L s.heap news) (T : Top p loose mean mg mb h₀) (hk : cs.kind = .function)
    (hdp : dp + 1 < recursionLimit) (hun : un + 8 < cLine)
    (hret : ∀ (t' : Tok) (h' : Heap) (tk' : Nat), Fr h₀ L h' m → News h₀ L h' news → Q (.int (x - y) t') { s with heap := h', toks := tk' }) :
    wpAny (model prog w) (ktrTop dp un gd cn cs L a ccd cl outer) (call (.ref 84) [.int x t, .int y u]) Q E s := by
  k_with_none
  w_top off
  k_with "call builtin:list.pop" => (k_here; (with_reducible show wpAny _ _ (call (Value.builtin _) [Value.ref _, Value.int 0 _]) _ _ _); k_dflt (refine pop0 (by k_asm) (by k_asm) (by k_upd) (by assumption) ?_); intro _ _ _)
  k_with "truthy ref" => (k_here; k_dflt (refine truthyCons (by k_asm) (by k_mem) (by assumption) ?_); (try rw [if_pos rfl]))
  refine wpAny_call ?_
  k_dflt cell_enter
  k_steps
  exact hret _ _ _ (by k_asm) (by k_asm)
end
/-! part PgB -/
section
variable {prog : Program} {w : World} {A : Around} {E : Value → Shared → Prop} {s : Shared} {h₀ : Heap} {L D : Addr} {m : Str → Option Value} {news news' : List (Addr × Obj)} {n : Nat}
theorem lenLed {ws : List Value} {Q : Value → Shared → Prop} (N : News h₀ L s.heap news) (hm : (D, listOf ws.toArray n) ∈ news) (hz : ws.length ≤ 10000)
    (h : Q (.int (ws.length : Int) (s.toks + 1)) { s with toks := s.toks + 1 + 1 }) : wpAny (model prog w) A (call (.builtin "len") [.ref D]) Q E s :=
  len_list (News.isList N hm) (by simp only [List.size_toArray]; omega) (by simpa using h)
end
def Hold (P : Prop) : Prop := P
theorem hold {P : Prop} (h : Hold P) : P := h
theorem Hold.out {P : Prop} (h : P) : Hold P := h
section
variable {prog : Program} {w : World} {A : Around} {E : Value → Shared → Prop} {s : Shared} {h₀ : Heap} {L D : Addr} {m : Str → Option Value} {news news' : List (Addr × Obj)} {n : Nat}
theorem joinLed {l : List (Str × Tok)} {x : Str} {t : Tok} {Q : Value → Shared → Prop} (N : News h₀ L s.heap news) (hm : (D, listOf (strValues l).toArray n) ∈ news) (hz : ((l.map (·.1)).map (·.length)).sum + (l.map (·.1)).length * x.length ≤ 16777216)
    (h : ∀ t' k, Q (.str (Txt.join x (l.map (·.1))) t') { s with toks := k }) : wpAny (model prog w) A (call (.builtin "str.join") [.str x t, .ref D]) Q E s :=
  SC.join (News.isList N hm) rfl (joinOk_of hz) h
end
def stmtsOf : PySem.Stmt → List PySem.Stmt
  | .FunctionDef _ _ b _ _ _ _ _ _ _ => b
  | _ => []
def valOf : PySem.Stmt → PySem.Expr
  | .Assign _ v _ => v
  | _ => default
def isFun (n : Str) : PySem.Stmt → Bool
  | .FunctionDef m _ _ _ _ _ _ _ _ _ => m == n
  | _ => false
def lamE : PySem.Expr := valOf ((stmtsOf ((PySem.Challenge.pw_pg0063_01.main.body.find? (isFun (Str.ofString "_law_stream"))).getD default)).getD 1 default)
abbrev qualL : Str := (Str.ofString "_law_stream" ++ (".<locals>." : Str)) ++ Str.ofString "<lambda>"
@[irreducible] def lamObj (e : PySem.Expr) (cell c' : Addr) (pm ct : Value) : Obj := match e with
  | .Lambda a b sc _ => kla_obj (Str.ofString "<lambda>") qualL a b sc [(Str.ofString "left", cell)] pm c' ct
  | _ => default
theorem lamObj_eq {e : PySem.Expr} {a b sc p} {cell c' : Addr} {pm ct : Value} (h : e = .Lambda a b sc p) : lamObj e cell c' pm ct = kla_obj (Str.ofString "<lambda>") qualL a b sc [(Str.ofString "left", cell)] pm c' ct := by subst h; unfold lamObj; rfl
local macro_rules | `(tactic| walk_at "enterL") => `(tactic| (refine' kla_code ?k1 ?k2 ?k3 ?k4 ?k5 ?kA ?kF ?kK ?k6 ?k7 ?k8 ?k9 ?kB ?_ ?c2 ?c3 ?c4 ?c5; (case kA => exact rfl); (case kF => exact rfl); (case kK => first | exact rfl | assumption); (case k1 => k_asm); (case k2 => k_asm); (case k3 => k_asm); (case k4 => k_asm); (case k5 => k_asm); (case k6 => k_mem); (case k7 => exact codeRec_news (by k_asm) (by k_mem) (by assumption) (by assumption)); (case k8 => k_room); (case k9 => exact rfl); (case c5 => decide); (case kB => exact locs rfl); (case c2 => exact rfl); (case c3 => exact rfl); (case c4 => exact rfl); k_whole; intro g' L' h' FG' F' N' B' X' T'; (try dsimp only); (try k_lift B'); (try k_fold)))
section
variable {prog : Program} {w : World} {p : Program} {loose : List Str} {mean : ExcName → Option Value} {mg mb : Str → Option Value}
    {dp un : Nat} {gd : Option (List Code)} {cn : Str} {cs : Scope} {a : Addr} {ccd : Value} {cl : List (Str × Addr)} {outer : List Env} {A₀ : Around} {base h₀ : Heap} {L : Addr} {m : Str → Option Value} {s : Shared} {Q E : Value → Shared → Prop} {news : List (Addr × Obj)}
theorem lam_c {f cell cod lf : Addr} {pm ct : Value} {c : Str} {oc ol : Obj} {vs : Array Value} {tq tc t : Tok} {chars : List Value} {n : Nat} {rest : List (Addr × Obj)}
    (B : Below A₀ base outer h₀) (F : Fr h₀ L s.heap m) (X : (Mine.hd.heap_39 w.params).In h₀)
    (N : News h₀ L s.heap ((lf, listOf (.str c tc :: chars).toArray n) :: (f, lamObj lamE cell cod pm ct) :: (cod, oc) :: (cell, ol) :: rest)) (T : Top p loose mean mg mb h₀) (hk : cs.kind = .function)
    (CH : CodeHd base 104 100) (hoc : oc.data = .fields vs) (hvs : vs[1]? = some (.str qualL tq)) (hol : ol.data = .cell (some (.ref lf)))
    (hrest : ∀ q ∈ rest, q.1 ≠ lf) (h1 : @Ne Nat f lf) (h2 : @Ne Nat cod lf) (h3 : @Ne Nat cell lf) (hlen : chars.length ≤ 1000) (hc : c.length ≤ 1)
    (hdp : dp + 1 < recursionLimit) (hun : un + 8 < cLine)
    (hret : ∀ (t' : Tok) (h' : Heap) (tk' : Nat), Fr h₀ L h' m → News h₀ L h' ((lf, listOf chars.toArray (n + 1)) :: (f, lamObj lamE cell cod pm ct) :: (cod, oc) :: (cell, ol) :: rest) → Q (.str c t') { s with heap := h', toks := tk' }) :
    wpAny (model prog w) (ktrTop dp un gd cn cs L a ccd cl outer) (call (.ref f) [.int 1 t]) Q E s := by
  k_with_none
  w_top off
  k_with "call builtin:list.pop" => (k_here; (with_reducible show wpAny _ _ (call (Value.builtin _) [Value.ref _, Value.int 0 _]) _ _ _); k_dflt (refine pop0 (by k_asm) (by k_asm) (by k_upd) (by assumption) ?_); intro _ _ _)
  k_with "truthy ref" => (k_here; k_dflt (refine truthyCons (by k_asm) (by k_mem) (by assumption) ?_); (try rw [if_pos rfl]))
  k_with "call builtin:len" => (k_here; (with_reducible show wpAny _ _ (call (Value.builtin "len") [Value.ref _]) _ _ _); k_dflt (refine lenLed (by k_asm) (by k_mem) (by first | assumption | (simp only [List.length_cons, List.length_nil]; omega)) ?_))
  k_with "CompSrc" => refine hold ?_
  rw [lamObj_eq (e := lamE) rfl] at N hret
  refine wpAny_call ?_
  k_dflt walk_at "enterL"
  k_steps
  refine Hold.out ?_
  (rename IsRange _ _ _ _ _ _ _ _ => hR)
  rw [if_neg (by simp only [List.length_cons]; omega)] at hR
  refine LCg.CompSrc.range (n := 1) rfl (by k_asm) (by k_asm) hR (by decide) (by decide) (by decide) (fun g => ?_)
  refine LCg.CompRest.succ (fun v I oI C oC D m₂ h tk E' hP hO hx F9 N9 off9 ne9 => ?_)
  have o1 : ¬ (@Eq Nat I lf) := fun e => off9.1.1 e.symm
  have o2 : ¬ (@Eq Nat C lf) := fun e => off9.1.2.1 e.symm
  have o3 : ¬ (@Eq Nat D lf) := fun e => off9.1.2.2 e.symm
  k_steps
  refine LCg.CompEnd.intro (by assumption) (by assumption) _ (fun p hp => hp) (by exact ⟨off9.1, off9.2⟩) trivial ?_
  refine LCg.CompRest.zero ?_
  k_steps

  exact hret _ _ _ (by k_asm) (newsSub (by assumption) (fun q hq => List.Mem.tail _ hq))
theorem lam_n {f cell cod lf : Addr} {pm ct : Value} {oc ol : Obj} {vs : Array Value} {tq t : Tok} {n : Nat} {rest : List (Addr × Obj)}
    (B : Below A₀ base outer h₀) (F : Fr h₀ L s.heap m) (X : (Mine.hd.heap_39 w.params).In h₀)
    (N : News h₀ L s.heap ((lf, listOf #[] n) :: (f, lamObj lamE cell cod pm ct) :: (cod, oc) :: (cell, ol) :: rest)) (T : Top p loose mean mg mb h₀) (hk : cs.kind = .function)
    (CH : CodeHd base 104 100) (hoc : oc.data = .fields vs) (hvs : vs[1]? = some (.str qualL tq)) (hol : ol.data = .cell (some (.ref lf)))
    (hdp : dp + 1 < recursionLimit) (hun : un + 8 < cLine)
    (hret : ∀ (t' : Tok) (h' : Heap) (tk' : Nat), Fr h₀ L h' m → News h₀ L h' ((lf, listOf #[] n) :: (f, lamObj lamE cell cod pm ct) :: (cod, oc) :: (cell, ol) :: rest) → Q (.str (Str.ofString "") t') { s with heap := h', toks := tk' }) :
    wpAny (model prog w) (ktrTop dp un gd cn cs L a ccd cl outer) (call (.ref f) [.int 1 t]) Q E s := by
  k_with_none
  w_top off
  k_with "call builtin:list.pop" => (k_here; (with_reducible show wpAny _ _ (call (Value.builtin _) [Value.ref _, Value.int 0 _]) _ _ _); k_dflt (refine pop0 (by k_asm) (by k_asm) (by k_upd) (by assumption) ?_); intro _ _ _)
  k_with "truthy ref" => (k_here; k_dflt (refine truthyCons (by k_asm) (by k_mem) (by assumption) ?_); (try rw [if_pos rfl]))
  k_with "call builtin:len" => (k_here; (with_reducible show wpAny _ _ (call (Value.builtin "len") [Value.ref _]) _ _ _); k_dflt (refine lenLed (by k_asm) (by k_mem) (by first | assumption | (simp only [List.length_cons, List.length_nil]; omega)) ?_))
  k_with "CompSrc" => refine hold ?_
  rw [lamObj_eq (e := lamE) rfl] at N hret
  have hlen : ([] : List Value).length ≤ 10000 := by simp
  refine wpAny_call ?_
  k_dflt walk_at "enterL"
  k_steps
  refine Hold.out ?_
  (rename IsRange _ _ _ _ _ _ _ _ => hR)
  rw [if_pos (by simp only [List.length_nil]; decide)] at hR
  refine LCg.CompSrc.range (n := 0) rfl (by k_asm) (by k_asm) hR (by decide) (by decide) (by decide) (fun g => ?_)
  refine LCg.CompRest.zero ?_
  k_steps

  exact hret _ _ _ (by k_asm) (newsSub (by assumption) (fun q hq => List.Mem.tail _ hq))
end
/-! part PgC -/
theorem lamFn {h₀ h : Heap} {L f cell cod : Addr} {pm ct : Value} {news : List (Addr × Obj)} (N : News h₀ L h news) (m : (f, lamObj lamE cell cod pm ct) ∈ news) : FnAt f h := by
  rw [lamObj_eq (e := lamE) rfl] at m
  exact FnAt.of N m
abbrev strDict (P : Params) (u1 u2 u3 u4 u5 u6 u7 : Tok) (q lam : Addr) : Obj :=
  dictOf [⟨PyData.keyHash P (Str.ofString "lineno"), .str (Str.ofString "lineno") u1, .int 1 u6⟩, ⟨PyData.keyHash P (Str.ofString "instream"), .str (Str.ofString "instream") u2, .none⟩,
    ⟨PyData.keyHash P (Str.ofString "whitespace"), .str (Str.ofString "whitespace") u3, .str (Str.ofString "\n\t\u000d ") u5⟩, ⟨PyData.keyHash P (Str.ofString "pushback"), .str (Str.ofString "pushback") u4, .ref q⟩,
    ⟨PyData.keyHash P (Str.ofString "read"), .str (Str.ofString "read") u7, .ref lam⟩] 5
section
variable {prog : Program} {w : World} {p : Program} {loose : List Str} {mean : ExcName → Option Value} {mg mb : Str → Option Value}
    {dp un : Nat} {gd : Option (List Code)} {cn : Str} {cs : Scope} {a : Addr} {ccd : Value} {cl : List (Str × Addr)} {outer : List Env} {A₀ : Around} {base h₀ : Heap} {L : Addr} {m : Str → Option Value} {s : Shared} {Q E : Value → Shared → Prop} {news : List (Addr × Obj)}
theorem read_s {R : Result → Shared → Prop} {f cell cod lf r d S dS pb q : Addr} {pm ct : Value} {c : Str} {oc ol : Obj} {vs : Array Value} {tq tc tl t1 t2 t3 t4 t5 u1 u2 u3 u4 u5 u6 u7 : Tok} {k : Int} {chars : List Value} {n : Nat} {rest : List (Addr × Obj)}
    (B : Below A₀ base outer h₀) (F : Fr h₀ L s.heap m) (X : (Mine.hd.heap_39 w.params).In h₀)
    (N : News h₀ L s.heap ((lf, listOf (.str c tc :: chars).toArray n) :: (f, lamObj lamE cell cod pm ct) :: (cod, oc) :: (cell, ol) :: (r, instObj 52 d) :: (d, lexDict w.params t1 t2 t3 t4 t5 (.int k tl) (.ref S) pb) :: (S, instObj 52 dS) :: (dS, strDict w.params u1 u2 u3 u4 u5 u6 u7 q f) :: rest)) (T : Top p loose mean mg mb h₀) (hk : cs.kind = .function)
    (CH : CodeHd base 104 100) (hoc : oc.data = .fields vs) (hvs : vs[1]? = some (.str qualL tq)) (hol : ol.data = .cell (some (.ref lf)))
    (hrest : ∀ q ∈ rest, q.1 ≠ lf) (hrestd : ∀ q ∈ rest, q.1 ≠ d) (h1 : @Ne Nat f lf) (h2 : @Ne Nat cod lf) (h3 : @Ne Nat cell lf) (h4 : @Ne Nat r lf) (h5 : @Ne Nat d lf) (h6 : @Ne Nat S lf) (h7 : @Ne Nat dS lf)
    (d1 : @Ne Nat f d) (d2 : @Ne Nat cod d) (d3 : @Ne Nat cell d) (d4 : @Ne Nat r d) (d5 : @Ne Nat S d) (d6 : @Ne Nat dS d) (hlen : chars.length ≤ 1000) (hc : c.length ≤ 1)
    (hdp : dp + 2 < recursionLimit) (hun : un + 16 < cLine)
    (hret : ∀ (t' tl' : Tok) (h' : Heap) (tk' : Nat), Fr h₀ L h' m → News h₀ L h' ((lf, listOf chars.toArray (n + 1)) :: (f, lamObj lamE cell cod pm ct) :: (cod, oc) :: (cell, ol) :: (r, instObj 52 d) :: (d, lexDict w.params t1 t2 t3 t4 t5 (.int (if c = Str.ofString "\n" then k + 1 else k) tl') (.ref S) pb) :: (S, instObj 52 dS) :: (dS, strDict w.params u1 u2 u3 u4 u5 u6 u7 q f) :: rest) → R (.ok (.ret (.str c t'))) { s with heap := h', toks := tk' }) :
    codeAny (model prog w) (ktrTop dp un gd cn cs L a ccd cl outer) (.call (.ref 35) ⟨[.ref r], []⟩) R s := by
  k_with_none
  w_top off
  k_with "call builtin:list.pop" => (k_here; (with_reducible show wpAny _ _ (call (Value.builtin _) [Value.ref _, Value.int 0 _]) _ _ _); k_dflt (refine pop0 (by k_asm) (by k_asm) (by k_upd) (by assumption) ?_); intro _ _ _)
  k_with "truthy ref" => (k_here; k_dflt (refine truthyCons (by k_asm) (by k_mem) (by assumption) ?_); (try rw [if_pos rfl]))
  k_with "call builtin:len" => (k_here; (with_reducible show wpAny _ _ (call (Value.builtin "len") [Value.ref _]) _ _ _); k_dflt (refine lenLed (by k_asm) (by k_mem) (by first | assumption | (simp only [List.length_cons, List.length_nil]; omega)) ?_))
  k_with "callWith ref" => (k_here; k_dflt (refine callWith_F (by exact lamFn (by k_asm) (by k_mem)) ?_; k_whole))
  k_with "FnAt" => (k_dflt (exact lamFn (by k_asm) (by k_mem)))
  k_dflt cell_enter
  k_steps
  refine lam_c (by k_asm) (by k_asm) (by k_asm) (by k_asm) (by k_asm) (by rfl) (by assumption) hoc hvs hol ?_ h1 h2 h3 hlen hc (by ktr_room) (by ktr_units) ?_
  · k_all
  intro t' h' tk' F' N'
  by_cases hnl : c = Str.ofString "\n"
  · rw [if_pos hnl] at hret
    subst hnl
    k_steps
    exact hret _ _ _ _ (by k_asm) (by k_asm)
  · rw [if_neg hnl] at hret
    k_steps
    all_goals first | exact absurd (eq_of_beq (by assumption)) hnl | exact hret _ _ _ _ (by k_asm) (by k_asm)
theorem read_n {R : Result → Shared → Prop} {f cell cod lf r d S dS pb q : Addr} {pm ct : Value} {oc ol : Obj} {vs : Array Value} {tq tl t1 t2 t3 t4 t5 u1 u2 u3 u4 u5 u6 u7 : Tok} {k : Int} {n : Nat} {rest : List (Addr × Obj)}
    (B : Below A₀ base outer h₀) (F : Fr h₀ L s.heap m) (X : (Mine.hd.heap_39 w.params).In h₀)
    (N : News h₀ L s.heap ((lf, listOf #[] n) :: (f, lamObj lamE cell cod pm ct) :: (cod, oc) :: (cell, ol) :: (r, instObj 52 d) :: (d, lexDict w.params t1 t2 t3 t4 t5 (.int k tl) (.ref S) pb) :: (S, instObj 52 dS) :: (dS, strDict w.params u1 u2 u3 u4 u5 u6 u7 q f) :: rest)) (T : Top p loose mean mg mb h₀) (hk : cs.kind = .function)
    (CH : CodeHd base 104 100) (hoc : oc.data = .fields vs) (hvs : vs[1]? = some (.str qualL tq)) (hol : ol.data = .cell (some (.ref lf)))
    (hdp : dp + 2 < recursionLimit) (hun : un + 16 < cLine)
    (hret : ∀ (t' : Tok) (h' : Heap) (tk' : Nat), Fr h₀ L h' m → News h₀ L h' ((lf, listOf #[] n) :: (f, lamObj lamE cell cod pm ct) :: (cod, oc) :: (cell, ol) :: (r, instObj 52 d) :: (d, lexDict w.params t1 t2 t3 t4 t5 (.int k tl) (.ref S) pb) :: (S, instObj 52 dS) :: (dS, strDict w.params u1 u2 u3 u4 u5 u6 u7 q f) :: rest) → R (.ok (.ret (.str (Str.ofString "") t'))) { s with heap := h', toks := tk' }) :
    codeAny (model prog w) (ktrTop dp un gd cn cs L a ccd cl outer) (.call (.ref 35) ⟨[.ref r], []⟩) R s := by
  k_with_none
  w_top off
  k_with "call builtin:list.pop" => (k_here; (with_reducible show wpAny _ _ (call (Value.builtin _) [Value.ref _, Value.int 0 _]) _ _ _); k_dflt (refine pop0 (by k_asm) (by k_asm) (by k_upd) (by assumption) ?_); intro _ _ _)
  k_with "truthy ref" => (k_here; k_dflt (refine truthyCons (by k_asm) (by k_mem) (by assumption) ?_); (try rw [if_pos rfl]))
  k_with "call builtin:len" => (k_here; (with_reducible show wpAny _ _ (call (Value.builtin "len") [Value.ref _]) _ _ _); k_dflt (refine lenLed (by k_asm) (by k_mem) (by first | assumption | (simp only [List.length_cons, List.length_nil]; omega)) ?_))
  k_with "callWith ref" => (k_here; k_dflt (refine callWith_F (by exact lamFn (by k_asm) (by k_mem)) ?_; k_whole))
  k_with "FnAt" => (k_dflt (exact lamFn (by k_asm) (by k_mem)))
  k_dflt cell_enter
  k_steps
  refine lam_n (by k_asm) (by k_asm) (by k_asm) (by k_asm) (by k_asm) (by rfl) (by assumption) hoc hvs hol (by ktr_room) (by ktr_units) ?_
  intro t' h' tk' F' N'
  k_steps
  exact hret _ _ _ (by k_asm) (by k_asm)
end
/-! part PgN -/
theorem slot_ci_next : Slot "callable_iterator" "__next__" "callable_iterator.__next__" :=
  .of (owner := "callable_iterator") (n := "__next__") (by rw [typeLookup_type, builtinLookup_eq_fast]; kernel_rfl) (by decide +kernel) (by decide +kernel) (by decide +kernel)
    (by first | exact .inl (by decide +kernel) | exact .inr (by decide +kernel)) (by rw [isSubtype_type]; kernel_rfl)
theorem slot_ci_iter : Slot "callable_iterator" "__iter__" "callable_iterator.__iter__" :=
  .of (owner := "callable_iterator") (n := "__iter__") (by rw [typeLookup_type, builtinLookup_eq_fast]; kernel_rfl) (by decide +kernel) (by decide +kernel) (by decide +kernel)
    (by first | exact .inl (by decide +kernel) | exact .inr (by decide +kernel)) (by rw [isSubtype_type]; kernel_rfl)
theorem entry_ci_next : entryFor table "callable_iterator.__next__" = some Builtin.«callable_iterator.__next__» := entryFor_of_tree (by kernel_rfl)
theorem args_ci_next (a : Value) : argsOk "callable_iterator.__next__" ⟨[a], []⟩ := by unfold argsOk; kernel_rfl
theorem args_ci_iter (a : Value) : argsOk "callable_iterator.__iter__" ⟨[a], []⟩ := by unfold argsOk; kernel_rfl
abbrev itObj (q : Addr) (ti : Tok) : Obj := { cls := .type "callable_iterator", data := .fields #[.ref q, .str (Str.ofString "") ti, .bool false] }
section
variable {M : Model} {A : Around} {E : Value → Shared → Prop} {s : Shared}
theorem wpAny_callBorrowed {f : Value} {pos : List Value} {Q : Value → Shared → Prop}
    (hc : codeAny M A (.call f ⟨pos, []⟩) (fun r s' => match r with | .ok (.ret v) => Q v s' | .ok _ => False | .error e => E e s') s) :
    wpAny M A (callBorrowed f pos) Q E s := fun Γ p hΓ => by
  unfold callBorrowed
  rw [Sem.wp_call]
  refine wpCode_mono (fun r s' h => ?_) (hc _ p rfl (hΓ.enter _ none p (by intro x; cases x)))
  cases r with
  | ok f => cases f <;> first | exact h | exact h.elim
  | error e => exact h
theorem wpAny_borrows {q f : Addr} {self : Value} {oc : Value} {od : Option Addr} {fd : FuncData} {sl : Array (Option Value)} {Q : Bool → Shared → Prop} (hq : s.heap.get? q = some (methodObj (.ref f) self)) (hf : s.heap.get? f = some ⟨oc, od, .func fd, sl⟩)
    (h : Q true s) : wpAny M A (borrowsExactly (.ref q)) Q E s := by
  unfold borrowsExactly
  refine wpAny_bind (wpAny_load hq ?_)
  show wpAny M A (do match (← load f).data with | .func _ => pure true | _ => pure false) Q E s
  exact wpAny_bind (wpAny_load hf (wpAny_pure h))
end
section
variable {prog : Program} {w : World} {A : Around} {E : Value → Shared → Prop} {s : Shared}
theorem next_item {I q f : Addr} {self : Value} {ti : Tok} {oc : Value} {od : Option Addr} {fd : FuncData} {sl : Array (Option Value)} {Q : Option Value → Shared → Prop} (hI : s.heap.get? I = some (itObj q ti))
    (hq : s.heap.get? q = some (methodObj (.ref f) self)) (hf : s.heap.get? f = some ⟨oc, od, .func fd, sl⟩)
    (h : codeAny (model prog w) A.in1 (.call (.ref f) ⟨[self], []⟩) (fun r s' => match r with | .ok (.ret v) => s'.heap.get? I = some (itObj q ti) ∧ ∃ c t', v = .str c t' ∧ c ≠ Str.ofString "" ∧ Q (some v) s' | _ => False) s) :
    wpAny (model prog w) A (pyNext (.ref I)) Q E s := by
  have hT : s.TypeIs (.ref I) "callable_iterator" := ⟨_, hI, rfl⟩
  unfold pyNext
  refine wpAny_bind (wpAny_attempt (wpAny_callSpecial?_slot (name := Str.ofString "__next__") hT slot_ci_next
    (wpAny_call_entry slot_ci_next hT entry_ci_next ?_ (args_ci_next _))))
  show wpAny _ _ (field (.ref I) 2 >>= _) _ _ s
  refine wpAny_bind (wpAny_field hI rfl (x := .bool false) rfl ?_)
  show wpAny _ _ (field (.ref I) 0 >>= _) _ _ s
  refine wpAny_bind (wpAny_field hI rfl (x := .ref q) rfl ?_)
  show wpAny _ _ ((callOutOfASlot (.ref q)).attempt >>= _) _ _ s
  refine wpAny_bind (wpAny_attempt ?_)
  unfold callOutOfASlot
  refine wpAny_bind (wpAny_borrows hq hf ?_)
  rw [if_pos rfl]
  refine wpAny_callBorrowed (method_call hq ?_)
  refine codeAny_mono h fun r s' hr => ?_
  cases r with
  | error e => exact hr.elim
  | ok fl =>
    cases fl with
    | ret v =>
      obtain ⟨hI', c, t', rfl, hne, hq'⟩ := hr
      show wpAny _ _ (field (.ref I) 2 >>= _) _ _ s'
      refine wpAny_bind (wpAny_field hI' rfl (x := .bool false) rfl ?_)
      show wpAny _ _ (field (.ref I) 1 >>= _) _ _ s'
      refine wpAny_bind (wpAny_field hI' rfl (x := .str (Str.ofString "") ti) rfl ?_)
      refine wpAny_bind (wpAny_holding (eqBool_str ?_))
      have e : (Str.ofString "" == c) = false := by
        cases q : (Str.ofString "" == c) with
        | false => rfl
        | true => exact absurd (eq_of_beq q).symm hne
      rw [e]
      exact wpAny_pure ⟨_, rfl, wpAny_pure hq'⟩
    | _ => exact hr.elim
theorem next_end {I q f : Addr} {self : Value} {ti : Tok} {oc : Value} {od : Option Addr} {fd : FuncData} {sl : Array (Option Value)} {Q : Option Value → Shared → Prop} (hh : A.handled = none) (hI : s.heap.get? I = some (itObj q ti))
    (hq : s.heap.get? q = some (methodObj (.ref f) self)) (hf : s.heap.get? f = some ⟨oc, od, .func fd, sl⟩)
    (h : codeAny (model prog w) A.in1 (.call (.ref f) ⟨[self], []⟩) (fun r s' => match r with
      | .ok (.ret v) => s'.heap.get? I = some (itObj q ti) ∧ s'.heap.get? q = some (methodObj (.ref f) self) ∧ s'.heap.get? f = some ⟨oc, od, .func fd, sl⟩ ∧ ∃ t', v = .str (Str.ofString "") t' ∧ ∀ h', Heap.ExtBut I s'.heap h' → Q none { s' with heap := h' }
      | _ => False) s) :
    wpAny (model prog w) A (pyNext (.ref I)) Q E s := by
  have hT : s.TypeIs (.ref I) "callable_iterator" := ⟨_, hI, rfl⟩
  unfold pyNext
  refine wpAny_bind (wpAny_attempt (wpAny_callSpecial?_slot (name := Str.ofString "__next__") hT slot_ci_next
    (wpAny_call_entry slot_ci_next hT entry_ci_next ?_ (args_ci_next _))))
  show wpAny _ _ (field (.ref I) 2 >>= _) _ _ s
  refine wpAny_bind (wpAny_field hI rfl (x := .bool false) rfl ?_)
  show wpAny _ _ (field (.ref I) 0 >>= _) _ _ s
  refine wpAny_bind (wpAny_field hI rfl (x := .ref q) rfl ?_)
  show wpAny _ _ ((callOutOfASlot (.ref q)).attempt >>= _) _ _ s
  refine wpAny_bind (wpAny_attempt ?_)
  unfold callOutOfASlot
  refine wpAny_bind (wpAny_borrows hq hf ?_)
  rw [if_pos rfl]
  refine wpAny_callBorrowed (method_call hq ?_)
  refine codeAny_mono h fun r s' hr => ?_
  cases r with
  | error e => exact hr.elim
  | ok fl =>
    cases fl with
    | ret v =>
      obtain ⟨hI', hq', hf', t', rfl, hQ⟩ := hr
      show wpAny _ _ (field (.ref I) 2 >>= _) _ _ s'
      refine wpAny_bind (wpAny_field hI' rfl (x := .bool false) rfl ?_)
      show wpAny _ _ (field (.ref I) 1 >>= _) _ _ s'
      refine wpAny_bind (wpAny_field hI' rfl (x := .str (Str.ofString "") ti) rfl ?_)
      refine wpAny_bind (wpAny_holding (eqBool_str ?_))
      have e : (Str.ofString "" == Str.ofString "") = true := by decide
      rw [e]
      refine wpAny_bind (wpAny_rule ?_)
      refine wpAny_bind ?_
      show wpAny _ _ (field (.ref I) 0 >>= _) _ _ s'
      refine wpAny_bind (wpAny_field hI' rfl (x := .ref q) rfl ?_)
      refine wpAny_bind ?_
      unfold slotLetsGo
      refine wpAny_bind (wpAny_borrows hq' hf' ?_)
      rw [if_pos rfl]
      refine wpAny_pure ?_
      refine wpAny_bind (wpAny_setField hI' rfl (by simp) ?_)
      refine wpAny_bind (wpAny_setField (Heap.get?_update_self _ hI' rfl) rfl (by simp) ?_)
      refine wpAny_setField (Heap.get?_update_self _ (Heap.get?_update_self _ hI' rfl) rfl) rfl (by simp) ?_
      show wpAny _ _ (newExc (.type "StopIteration") [] >>= _) _ _ _
      refine wpAny_bind ?_
      simp only [newExc, newTuple]
      refine wpAny_bind (wpAny_newObj_type ?_ (by size_fits))
      refine wpAny_bind (m := firstArgMember _ _) (wpAny_of_eq (a := Value.none) (by first | rfl | (simp only [firstArgMember]; rfl)) ?_)
      refine wpAny_newObj_type ?_ (by size_fits)
      simp only [raiseNew]
      refine wpAny_bind (wpAny_handled ?_)
      rw [show A.in1.handled = none from hh]
      refine wpAny_bind (wpAny_pure (wpAny_throw ?_))
      refine wpAny_bind (wpAny_isInstance (T := "StopIteration") (b := true) ⟨_, Heap.get?_push_size _ rfl, rfl⟩ isSubtype_stop ?_)
      exact wpAny_pure (hQ _ (((((Heap.SameBut.update ..).trans (Heap.SameBut.update ..)).trans (Heap.SameBut.update ..)).extBut.push _).push _))
    | _ => exact hr.elim
end
theorem spec_call : typeLookup (.type "method") "__call__" = pure (some (.builtin "method.__call__")) := by rw [typeLookup_type, builtinLookup_eq_fast]; kernel_rfl
theorem args_iter2 (a b : Value) : argsOk "iter" ⟨[a, b], []⟩ := by unfold argsOk; kernel_rfl
section
variable {prog : Program} {w : World} {A : Around} {E : Value → Shared → Prop} {s : Shared} {h₀ : Heap} {L D : Addr} {m : Str → Option Value} {news news' : List (Addr × Obj)} {n : Nat}
theorem iter2 {q : Addr} {f self : Value} {t : Tok} {Q : Value → Shared → Prop} (F : Fr h₀ L s.heap m) (N : News h₀ L s.heap news) (hq : (q, methodObj f self) ∈ news)
    (h : ∀ I h', Fr h₀ L h' m → News h₀ L h' ((I, itObj q t) :: news) → (∀ p ∈ news, p.1 < I) → Q (.ref I) { s with heap := h' }) : wpAny (model prog w) A (call (.builtin "iter") [.ref q, .str (Str.ofString "") t]) Q E s := by
  have hT : s.TypeIs (.ref q) "method" := ⟨_, (N _ hq).1, rfl⟩
  refine call_function_entry (by decide +kernel) (by decide +kernel) kdk_entry_iter (args_iter2 _ _) ?_
  unfold Builtin.«iter»
  refine wpAny_bind (m := someArgs "iter" 1 2 _) (wpAny_of_eq (a := [Value.ref q, Value.str (Str.ofString "") t]) (by first | rfl | kernel_rfl!) ?_)
  refine wpAny_bind (wpAny_specialOf hT spec_call ?_)
  refine wpAny_bind (wpAny_rule ?_)
  exact wpAny_bind (wpAny_newObj_type (wpAny_pure ⟨_, rfl, h _ _ (F.push _) (N.push F _) fun p hp => Heap.lt_size (N p hp).1⟩))
theorem entry_ci_iter : entryFor table "callable_iterator.__iter__" = some Builtin.«dict_keyiterator.__iter__» :=
  entryFor_alias (id' := "dict_keyiterator.__iter__") (by kernel_rfl) rfl (by decide +kernel) (by kernel_rfl)
theorem iter_self {I q : Addr} {t : Tok} {Q : Value → Shared → Prop} (hI : s.heap.get? I = some (itObj q t)) (h : Q (.ref I) s) : wpAny (model prog w) A (pyIter (.ref I)) Q E s := by
  have hT : s.TypeIs (.ref I) "callable_iterator" := ⟨_, hI, rfl⟩
  refine wpAny_pyIter_slot hT slot_ci_iter (wpAny_call_entry slot_ci_iter hT entry_ci_iter ?_ (args_ci_iter _))
  show wpAny _ _ (ret (.ref I)) _ _ s
  exact wpAny_pure ⟨_, rfl, "callable_iterator", _, hT, slot_ci_next.lookup, h⟩
end
/-! part PgG -/
def forBody : PySem.Stmt → List PySem.Stmt
  | .For _ _ b _ _ => b
  | _ => []
def ifBody : PySem.Stmt → List PySem.Stmt
  | .If _ b _ _ => b
  | _ => []
def ifElse : PySem.Stmt → List PySem.Stmt
  | .If _ _ b _ => b
  | _ => []
def clsBody : PySem.Stmt → List PySem.Stmt
  | .ClassDef _ _ _ b _ _ _ _ _ _ _ => b
  | _ => []
def isCls : PySem.Stmt → Bool
  | .ClassDef .. => true
  | _ => false
def tokFor : PySem.Stmt := (stmtsOf (((clsBody ((PySem.Challenge.pw_pg0063_01.main.body.find? isCls).getD default)).find? (isFun (Str.ofString "get_token"))).getD default)).getD 3 default
def quoteFor : PySem.Stmt := (ifBody ((forBody tokFor).getD 1 default)).getD 0 default
def bareFor : PySem.Stmt := (ifElse ((forBody tokFor).getD 1 default)).getD 2 default
theorem quoteFor_is : ∃ a b c d e, quoteFor = .For a b c d e := ⟨_, _, _, _, _, rfl⟩
theorem bareFor_is : ∃ a b c d e, bareFor = .For a b c d e := ⟨_, _, _, _, _, rfl⟩
section
variable {prog : Program} {w : World} {A : Around} {E : Value → Shared → Prop} {env : Env}
theorem owit_words {v : Str} {body : List PySem.Stmt} {Q : Flow → Shared → Prop} {I : Addr} {J : List (Str × Tok) → Shared → Prop}
    (turn : ∀ k c l s, J (c :: l) s → (∀ s', J l s' → OwitRest prog w A E env v body Q I k s') → OwitRest prog w A E env v body Q I (k + 1) s)
    (stop : ∀ k s, J [] s → OwitRest prog w A E env v body Q I (k + 1) s) : ∀ l k s, l.length < k → J l s → OwitRest prog w A E env v body Q I k s
  | [], 0, _, h, _ => absurd h (Nat.not_lt_zero _)
  | [], k + 1, s, _, hJ => stop k s hJ
  | c :: l, 0, _, h, _ => absurd h (Nat.not_lt_zero _)
  | c :: l, k + 1, s, h, hJ => turn k c l s hJ fun s' hJ' => owit_words turn stop l k s' (Nat.lt_of_succ_lt_succ h) hJ'
end
def tokDef : PySem.Stmt := ((clsBody ((PySem.Challenge.pw_pg0063_01.main.body.find? isCls).getD default)).find? (isFun (Str.ofString "get_token"))).getD default
def scopeOf : PySem.Stmt → Scope
  | .FunctionDef _ _ _ _ _ _ sc _ _ _ => sc
  | _ => default
theorem frMap {h₀ h : Heap} {L : Addr} {m m' : Str → Option Value} (F : Fr h₀ L h m) (e : ∀ z, m z = m' z) : Fr h₀ L h m' := (funext e : m = m') ▸ F
def cat : List (Str × Tok) → Str
  | [] => Str.ofString ""
  | x :: l => x.1 ++ cat l
def wsStr : Str := Str.ofString "\n\t\u000d "
theorem iteT {b : Bool} {P Q : Prop} (h : b = true) (x : P) : if b = true then P else Q := by rw [if_pos h]; exact x
theorem iteF {b : Bool} {P Q : Prop} (h : b = false) (x : Q) : if b = true then P else Q := by rw [if_neg (by simp [h])]; exact x
abbrev inWs (c : Str) : Bool := (Builtin.Str.occurrences (Str.ofString "\n\t\u000d ") c 0 (Str.ofString "\n\t\u000d ").length 1).isEmpty
structure Plain (c : Str) : Prop where
  len : c.length ≤ 1
  ne : c ≠ Str.ofString ""
  nl : ¬ c = Str.ofString "\n"
  ws : inWs c = true
  ws' : (!inWs c) = false
  bs : (c == Str.ofString "\\") = false
  qu : (c == Str.ofString "\"") = false
def Okt (t tk : Nat) : Prop := 1 ≤ t ∧ t < tk
theorem Okt.mono {t tk tk' : Nat} (h : Okt t tk) (hle : tk ≤ tk') : Okt t tk' := ⟨h.1, Nat.lt_of_lt_of_le h.2 hle⟩
theorem iaddT {prog : Program} {w : World} {A : Around} {E : Value → Shared → Prop} {s : Shared} {x y : Str} {t u : Tok} {Q : Value → Shared → Prop} (hy : y ≠ Str.ofString "") (hsz : x.length + y.length ≤ 10000)
    (h : ∀ t' k, s.toks ≤ k → (1 ≤ x.length → t' = s.toks ∧ k = s.toks + 1) → Q (.str (x ++ y) t') { s with toks := k }) : wpAny (model prog w) A (inplaceOp .Add (.str x t) (.str y u)) Q E s := by
  have hy0 : ¬ (y.length == 0) = true := fun e => hy (by
    have e1 : y.length = 0 := by simpa using e
    have e2 : y.cps = #[] := Array.eq_empty_of_size_eq_zero (show y.cps.size = 0 from e1)
    have e3 : (Str.ofString "").cps = #[] := by decide
    exact Str.ext' (by rw [e2, e3]))
  refine P.iadd_str ?_
  by_cases hx : (x.length == 0) = true
  · rw [if_pos hx]
    have h' := h u s.toks (Nat.le_refl _) (by intro q; have : x.length = 0 := by simpa using hx
                                              omega)
    rw [Str.append_left_empty hx] at h'
    exact h'
  · rw [if_neg hx, if_neg hy0]
    exact ⟨by rw [Str.length_append, sizeLine_eq]; omega, h _ _ (Nat.le_succ _) fun _ => ⟨rfl, rfl⟩⟩
section
variable {prog : Program} {w : World} {p : Program} {loose : List Str} {mean : ExcName → Option Value} {mg mb : Str → Option Value}
    {dp un : Nat} {gd : Option (List Code)} {cn : Str} {cs : Scope} {a : Addr} {ccd : Value} {cl : List (Str × Addr)} {outer : List Env} {A₀ : Around} {base h₀ : Heap} {L : Addr} {m : Str → Option Value} {s : Shared} {Q E : Value → Shared → Prop} {news : List (Addr × Obj)}
theorem nextc {f cell cod lf r d S dS pb q I qm : Addr} {pm ct : Value} {oc ol : Obj} {vs : Array Value} {tq tl ti t1 t2 t3 t4 t5 u1 u2 u3 u4 u5 u6 u7 : Tok} {k : Int} {chars : List Value} {n : Nat} {rest : List (Addr × Obj)} {c : Str} {tc : Tok} {P : Option Value → Shared → Prop}
    (B : Below A₀ base outer h₀) (F : Fr h₀ L s.heap m) (X : (Mine.hd.heap_39 w.params).In h₀)
    (N : News h₀ L s.heap ((lf, listOf (.str c tc :: chars).toArray n) :: (f, lamObj lamE cell cod pm ct) :: (cod, oc) :: (cell, ol) :: (r, instObj 52 d) :: (d, lexDict w.params t1 t2 t3 t4 t5 (.int k tl) (.ref S) pb) :: (S, instObj 52 dS) :: (dS, strDict w.params u1 u2 u3 u4 u5 u6 u7 q f) :: rest)) (T : Top p loose mean mg mb h₀) (hk : cs.kind = .function)
    (CH : CodeHd base 104 100) (hoc : oc.data = .fields vs) (hvs : vs[1]? = some (.str qualL tq)) (hol : ol.data = .cell (some (.ref lf)))
    (hrest : ∀ q ∈ rest, q.1 ≠ lf) (hrestd : ∀ q ∈ rest, q.1 ≠ d) (h1 : @Ne Nat f lf) (h2 : @Ne Nat cod lf) (h3 : @Ne Nat cell lf) (h4 : @Ne Nat r lf) (h5 : @Ne Nat d lf) (h6 : @Ne Nat S lf) (h7 : @Ne Nat dS lf)
    (d1 : @Ne Nat f d) (d2 : @Ne Nat cod d) (d3 : @Ne Nat cell d) (d4 : @Ne Nat r d) (d5 : @Ne Nat S d) (d6 : @Ne Nat dS d)
    (mI : (I, itObj qm ti) ∈ rest) (mq : (qm, methodObj (.ref 35) (.ref r)) ∈ rest) (hlen : chars.length ≤ 1000) (hc : c.length ≤ 1) (hne : c ≠ Str.ofString "")
    (hdp : dp + 2 < recursionLimit) (hun : un + 17 < cLine)
    (hret : ∀ (t' tl' : Tok) (h' : Heap) (tk' : Nat), Fr h₀ L h' m → News h₀ L h' ((lf, listOf (chars).toArray (n + 1)) :: (f, lamObj lamE cell cod pm ct) :: (cod, oc) :: (cell, ol) :: (r, instObj 52 d) :: (d, lexDict w.params t1 t2 t3 t4 t5 (.int (if c = Str.ofString "\n" then k + 1 else k) tl') (.ref S) pb) :: (S, instObj 52 dS) :: (dS, strDict w.params u1 u2 u3 u4 u5 u6 u7 q f) :: rest) → P (some (.str c t')) { s with heap := h', toks := tk' }) :
    wpAny (model prog w) (ktrTop dp un gd cn cs L a ccd cl outer) (pyNext (.ref I)) P E s := by
  have hf := (Frag.In.keeps X F.keep) 35 _ (by k_dflt k_is)
  have hsub : ∀ {x : Addr × Obj}, x ∈ rest → x ∈ (lf, listOf (.str c tc :: chars).toArray n) :: (f, lamObj lamE cell cod pm ct) :: (cod, oc) :: (cell, ol) :: (r, instObj 52 d) :: (d, lexDict w.params t1 t2 t3 t4 t5 (.int k tl) (.ref S) pb) :: (S, instObj 52 dS) :: (dS, strDict w.params u1 u2 u3 u4 u5 u6 u7 q f) :: rest := fun h => .tail _ (.tail _ (.tail _ (.tail _ (.tail _ (.tail _ (.tail _ (.tail _ h)))))))
  refine next_item (N _ (hsub mI)).1 (N _ (hsub mq)).1 hf (read_s (dp := dp) (un := un + 1) (gd := gd) (cn := cn) (cs := cs) (a := a) (ccd := ccd) (cl := cl) (outer := outer) B F X N T hk CH hoc hvs hol hrest hrestd h1 h2 h3 h4 h5 h6 h7 d1 d2 d3 d4 d5 d6 hlen hc hdp (by omega) ?_)
  intro t' tl' h' tk' F' N'
  have hsub' : ∀ {x : Addr × Obj}, x ∈ rest → x ∈ (lf, listOf (chars).toArray (n + 1)) :: (f, lamObj lamE cell cod pm ct) :: (cod, oc) :: (cell, ol) :: (r, instObj 52 d) :: (d, lexDict w.params t1 t2 t3 t4 t5 (.int (if c = Str.ofString "\n" then k + 1 else k) tl') (.ref S) pb) :: (S, instObj 52 dS) :: (dS, strDict w.params u1 u2 u3 u4 u5 u6 u7 q f) :: rest := fun h => .tail _ (.tail _ (.tail _ (.tail _ (.tail _ (.tail _ (.tail _ (.tail _ h)))))))
  exact ⟨(N' _ (hsub' mI)).1, c, t', rfl, hne, hret t' tl' h' tk' F' N'⟩
theorem nexte {f cell cod lf r d S dS pb q I qm : Addr} {pm ct : Value} {oc ol : Obj} {vs : Array Value} {tq tl ti t1 t2 t3 t4 t5 u1 u2 u3 u4 u5 u6 u7 : Tok} {k : Int} {chars : List Value} {n : Nat} {rest : List (Addr × Obj)} {P : Option Value → Shared → Prop}
    (B : Below A₀ base outer h₀) (F : Fr h₀ L s.heap m) (X : (Mine.hd.heap_39 w.params).In h₀)
    (N : News h₀ L s.heap ((lf, listOf #[] n) :: (f, lamObj lamE cell cod pm ct) :: (cod, oc) :: (cell, ol) :: (r, instObj 52 d) :: (d, lexDict w.params t1 t2 t3 t4 t5 (.int k tl) (.ref S) pb) :: (S, instObj 52 dS) :: (dS, strDict w.params u1 u2 u3 u4 u5 u6 u7 q f) :: rest)) (T : Top p loose mean mg mb h₀) (hk : cs.kind = .function)
    (CH : CodeHd base 104 100) (hoc : oc.data = .fields vs) (hvs : vs[1]? = some (.str qualL tq)) (hol : ol.data = .cell (some (.ref lf)))
    (mI : (I, itObj qm ti) ∈ rest) (mq : (qm, methodObj (.ref 35) (.ref r)) ∈ rest)
    (hdp : dp + 2 < recursionLimit) (hun : un + 17 < cLine)
    (hret : ∀ (h h' : Heap) (tk' : Nat), Fr h₀ L h m → News h₀ L h ((lf, listOf #[] n) :: (f, lamObj lamE cell cod pm ct) :: (cod, oc) :: (cell, ol) :: (r, instObj 52 d) :: (d, lexDict w.params t1 t2 t3 t4 t5 (.int k tl) (.ref S) pb) :: (S, instObj 52 dS) :: (dS, strDict w.params u1 u2 u3 u4 u5 u6 u7 q f) :: rest) → Heap.ExtBut I h h' → P none { s with heap := h', toks := tk' }) :
    wpAny (model prog w) (ktrTop dp un gd cn cs L a ccd cl outer) (pyNext (.ref I)) P E s := by
  have hf := (Frag.In.keeps X F.keep) 35 _ (by k_dflt k_is)
  have hsub : ∀ {x : Addr × Obj}, x ∈ rest → x ∈ (lf, listOf #[] n) :: (f, lamObj lamE cell cod pm ct) :: (cod, oc) :: (cell, ol) :: (r, instObj 52 d) :: (d, lexDict w.params t1 t2 t3 t4 t5 (.int k tl) (.ref S) pb) :: (S, instObj 52 dS) :: (dS, strDict w.params u1 u2 u3 u4 u5 u6 u7 q f) :: rest := fun h => .tail _ (.tail _ (.tail _ (.tail _ (.tail _ (.tail _ (.tail _ (.tail _ h)))))))
  refine next_end rfl (N _ (hsub mI)).1 (N _ (hsub mq)).1 hf (read_n (dp := dp) (un := un + 1) (gd := gd) (cn := cn) (cs := cs) (a := a) (ccd := ccd) (cl := cl) (outer := outer) B F X N T hk CH hoc hvs hol hdp (by omega) ?_)
  intro t' h' tk' F' N'
  exact ⟨(N' _ (hsub mI)).1, (N' _ (hsub mq)).1, (Frag.In.keeps X F'.keep) 35 _ (by k_dflt k_is), t', rfl, fun h'' e => hret h' h'' tk' F' N' e⟩
theorem bare_loop {tg it : PySem.Expr} {body orelse : List PySem.Stmt} {pos : Pos} (hb : bareFor = .For tg it body orelse pos) (hcs : scopeOf tokDef = cs) {f cell cod lf r d S dS pb q I qm : Addr} {pm ct : Value} {oc ol : Obj} {vs : Array Value} {tq tl ti t1 t2 t3 t4 t5 u1 u2 u3 u4 u5 u6 u7 : Tok} {k : Int} {chars : List Value} {n : Nat} {rest : List (Addr × Obj)} {sep : Str} {tsep : Tok} {P : Flow → Shared → Prop} {Tt : Str}
    (B : Below A₀ base outer h₀) (X : (Mine.hd.heap_39 w.params).In h₀) (T : Top p loose mean mg mb h₀)
    (CH : CodeHd base 104 100) (hoc : oc.data = .fields vs) (hvs : vs[1]? = some (.str qualL tq)) (hol : ol.data = .cell (some (.ref lf)))
    (hrest : ∀ q ∈ rest, q.1 ≠ lf) (hrestd : ∀ q ∈ rest, q.1 ≠ d) (h1 : @Ne Nat f lf) (h2 : @Ne Nat cod lf) (h3 : @Ne Nat cell lf) (h4 : @Ne Nat r lf) (h5 : @Ne Nat d lf) (h6 : @Ne Nat S lf) (h7 : @Ne Nat dS lf)
    (d1 : @Ne Nat f d) (d2 : @Ne Nat cod d) (d3 : @Ne Nat cell d) (d4 : @Ne Nat r d) (d5 : @Ne Nat S d) (d6 : @Ne Nat dS d)
    (mI : (I, itObj qm ti) ∈ rest) (mq : (qm, methodObj (.ref 35) (.ref r)) ∈ rest) (hlen : chars.length ≤ 900) (hs1 : sep.length ≤ 1) (hs2 : sep ≠ Str.ofString "") (hs3 : inWs sep = false) (hs4 : (!inWs sep) = true)
    (hdp : dp + 2 < recursionLimit) (hun : un + 17 < cLine) 
    (hret : ∀ (t' tl' : Tok) (n' : Nat) (h' : Heap) (tk' : Nat) (m' : Str → Option Value), Fr h₀ L h' m' → News h₀ L h' ((lf, listOf (chars).toArray n') :: (f, lamObj lamE cell cod pm ct) :: (cod, oc) :: (cell, ol) :: (r, instObj 52 d) :: (d, lexDict w.params t1 t2 t3 t4 t5 (.int (if sep = Str.ofString "\n" then k + 1 else k) tl') (.ref S) pb) :: (S, instObj 52 dS) :: (dS, strDict w.params u1 u2 u3 u4 u5 u6 u7 q f) :: rest) → 1 ≤ tk' → (2 ≤ Tt.length → Okt t' tk') → P (.ret (.str Tt t')) { s with heap := h', toks := tk' }) :
    ∀ (l : List (Str × Tok)) (fu : Nat) (s' : Shared), l.length < fu → (∃ tok tt h' tk' n' tl' m', s' = { s with heap := h', toks := tk' } ∧ tok ++ cat l = Tt ∧ tok.length + l.length ≤ 50 ∧ (∀ x ∈ l, Plain x.1) ∧ 1 ≤ tk' ∧ (2 ≤ tok.length → Okt tt tk') ∧ Fr h₀ L h' m' ∧ m' (Str.ofString "self") = some (.ref r) ∧ m' (Str.ofString "token") = some (.str tok tt) ∧ News h₀ L h' ((lf, listOf (strValues l ++ .str sep tsep :: chars).toArray n') :: (f, lamObj lamE cell cod pm ct) :: (cod, oc) :: (cell, ol) :: (r, instObj 52 d) :: (d, lexDict w.params t1 t2 t3 t4 t5 (.int k tl') (.ref S) pb) :: (S, instObj 52 dS) :: (dS, strDict w.params u1 u2 u3 u4 u5 u6 u7 q f) :: rest)) →
      OwitRest prog w (ktrTop dp un gd (Str.ofString "_netrclex.get_token") cs L 42 (.ref 41) [] outer) E (envOf (Str.ofString "_netrclex.get_token") cs L 42 (.ref 41)) (Str.ofString "ch") body P I fu s' := by
  k_with_none
  w_top off
  k_with "call builtin:list.pop" => (k_here; (with_reducible show wpAny _ _ (call (Value.builtin _) [Value.ref _, Value.int 0 _]) _ _ _); k_dflt (refine pop0 (by k_asm) (by k_asm) (by k_upd) (by assumption) ?_); intro _ _ _)
  k_with "truthy ref" => (k_here; k_dflt (refine truthyCons (by k_asm) (by k_mem) (by assumption) ?_); (try rw [if_pos rfl]))
  k_with "call builtin:len" => (k_here; (with_reducible show wpAny _ _ (call (Value.builtin "len") [Value.ref _]) _ _ _); k_dflt (refine lenLed (by k_asm) (by k_mem) (by first | assumption | (simp only [List.length_cons, List.length_nil]; omega)) ?_))
  k_with "call builtin:iter" => (k_here; (with_reducible show wpAny _ _ (call (Value.builtin "iter") [Value.ref _, Value.str _ _]) _ _ _); k_dflt (refine iter2 (by k_asm) (by k_asm) (by k_mem) ?_); intro _ _ _ _ lz9; (try k_lt lz9))
  k_with "exec For Name Name cons nil" => (k_here; k_dflt (refine owit_for ?_))
  k_with "pyIter ref" => ((with_reducible show wpAny _ _ (pyIter (Value.ref _)) (OwitAt _ _ _ _ _ _ _ _) _ _); k_here; k_dflt (refine iter_self (by exact News.get (by k_asm) (by k_mem)) ?_))
  k_with "OwitRest" => refine hold ?_
  k_with "ite" => first | refine iteT (by with_reducible assumption) ?_ | refine iteF (by with_reducible assumption) ?_
  k_with "execs cons" => ((with_reducible refine wpAny_execs_cons ?_); try dsimp only)
  k_with "execs nil" => refine wpAny_execs_nil ?_
  k_with "inplaceOp Add str str" => refine hold ?_
  rw [show bareFor = .For _ _ _ _ _ from rfl] at hb
  cases hb
  obtain rfl : cs = Scope.mk _ _ _ _ _ := hcs.symm.trans rfl
  refine owit_words ?_ ?_
  · rintro fu ⟨c, tc⟩ l s' ⟨tok, tt, h', tk', n', tl', m', rfl, hT, hz, hp, hk1, hk2, F, ms, mt, N⟩ IH
    have F1 := frMap (m' := fun z => if z = Str.ofString "token" then some (.str tok tt) else if z = Str.ofString "self" then some (.ref r) else m' z) F (fun z => by
      by_cases h1 : z = Str.ofString "token"
      · rw [if_pos h1, h1, mt]
      · rw [if_neg h1]
        by_cases h2 : z = Str.ofString "self"
        · rw [if_pos h2, h2, ms]
        · rw [if_neg h2])
    clear F
    have hc := hp _ (.head _)
    obtain ⟨c1, c2, c3, c4, c5, c6, c7⟩ := hc
    dsimp only at c1 c2 c3 c4 c5 c6 c7
    simp only [List.length_cons] at hz
    have hll : (strValues l ++ Value.str sep tsep :: chars).length ≤ 1000 := by simp only [strValues, List.length_append, List.length_map, List.length_cons]; omega
    refine OwitRest.succ ?_
    refine wpAny_with_toks (n := tk') (Nat.le_refl _) (nextc B F1 X N T rfl CH hoc hvs hol hrest hrestd h1 h2 h3 h4 h5 h6 h7 d1 d2 d3 d4 d5 d6 mI mq hll c1 c2 hdp hun ?_)
    rw [if_neg c3]
    intro t'' tl'' h'' tk'' F'' N'' hk3
    dsimp only at hk3
    k_steps
    refine Hold.out (iaddT c2 (by omega) (fun t4 k4 hk4 hk5 => ?_))
    dsimp only at hk4 hk5
    k_steps
    refine Hold.out (IH _ ⟨tok ++ c, _, _, _, _, _, _, rfl, ?_, ?_, fun x hx => hp x (.tail _ hx), by omega, ?_, by assumption, rfl, rfl, by assumption⟩)
    · rw [← hT, Str.append_assoc]; rfl
    · rw [Str.length_append]; omega
    · rw [Str.length_append]
      intro hl2
      have hq := hk5 (by omega)
      exact ⟨by rw [hq.1]; omega, by rw [hq.1, hq.2]; omega⟩
  · rintro fu s' ⟨tok, tt, h', tk', n', tl', m', rfl, hT, hz, hp, hk1, hk2, F, ms, mt, N⟩
    have F1 := frMap (m' := fun z => if z = Str.ofString "token" then some (.str tok tt) else if z = Str.ofString "self" then some (.ref r) else m' z) F (fun z => by
      by_cases h1 : z = Str.ofString "token"
      · rw [if_pos h1, h1, mt]
      · rw [if_neg h1]
        by_cases h2 : z = Str.ofString "self"
        · rw [if_pos h2, h2, ms]
        · rw [if_neg h2])
    clear F
    refine OwitRest.succ ?_
    refine wpAny_with_toks (n := tk') (Nat.le_refl _) (nextc B F1 X N T rfl CH hoc hvs hol hrest hrestd h1 h2 h3 h4 h5 h6 h7 d1 d2 d3 d4 d5 d6 mI mq (by omega) hs1 hs2 hdp hun ?_)
    intro t'' tl'' h'' tk'' F'' N'' hk3
    dsimp only at hk3
    k_steps
    have e : tok = Tt := by
      rw [← hT]
      exact (Str.append_right_empty (by rfl)).symm
    subst e
    refine hret _ _ _ _ _ _ (by assumption) (by assumption) ?_ ?_
    · omega
    · intro hl2; exact (hk2 hl2).mono (by omega)
theorem quote_loop {tg it : PySem.Expr} {body orelse : List PySem.Stmt} {pos : Pos} (hb : quoteFor = .For tg it body orelse pos) (hcs : scopeOf tokDef = cs) {f cell cod lf r d S dS pb q I qm : Addr} {pm ct : Value} {oc ol : Obj} {vs : Array Value} {tq tl ti t1 t2 t3 t4 t5 u1 u2 u3 u4 u5 u6 u7 : Tok} {k : Int} {chars : List Value} {n : Nat} {rest : List (Addr × Obj)} {sep : Str} {tsep : Tok} {P : Flow → Shared → Prop} {Tt : Str}
    (B : Below A₀ base outer h₀) (X : (Mine.hd.heap_39 w.params).In h₀) (T : Top p loose mean mg mb h₀)
    (CH : CodeHd base 104 100) (hoc : oc.data = .fields vs) (hvs : vs[1]? = some (.str qualL tq)) (hol : ol.data = .cell (some (.ref lf)))
    (hrest : ∀ q ∈ rest, q.1 ≠ lf) (hrestd : ∀ q ∈ rest, q.1 ≠ d) (h1 : @Ne Nat f lf) (h2 : @Ne Nat cod lf) (h3 : @Ne Nat cell lf) (h4 : @Ne Nat r lf) (h5 : @Ne Nat d lf) (h6 : @Ne Nat S lf) (h7 : @Ne Nat dS lf)
    (d1 : @Ne Nat f d) (d2 : @Ne Nat cod d) (d3 : @Ne Nat cell d) (d4 : @Ne Nat r d) (d5 : @Ne Nat S d) (d6 : @Ne Nat dS d)
    (mI : (I, itObj qm ti) ∈ rest) (mq : (qm, methodObj (.ref 35) (.ref r)) ∈ rest) (hlen : chars.length ≤ 900) (hs1 : sep.length ≤ 1) (hs2 : sep ≠ Str.ofString "") (hs3 : (sep == Str.ofString "\"") = true) (hs4 : ¬ sep = Str.ofString "\n")
    (hdp : dp + 2 < recursionLimit) (hun : un + 17 < cLine) 
    (hret : ∀ (t' tl' : Tok) (n' : Nat) (h' : Heap) (tk' : Nat) (m' : Str → Option Value), Fr h₀ L h' m' → News h₀ L h' ((lf, listOf (chars).toArray n') :: (f, lamObj lamE cell cod pm ct) :: (cod, oc) :: (cell, ol) :: (r, instObj 52 d) :: (d, lexDict w.params t1 t2 t3 t4 t5 (.int k tl') (.ref S) pb) :: (S, instObj 52 dS) :: (dS, strDict w.params u1 u2 u3 u4 u5 u6 u7 q f) :: rest) → 1 ≤ tk' → (2 ≤ Tt.length → Okt t' tk') → P (.ret (.str Tt t')) { s with heap := h', toks := tk' }) :
    ∀ (l : List (Str × Tok)) (fu : Nat) (s' : Shared), l.length < fu → (∃ tok tt h' tk' n' tl' m', s' = { s with heap := h', toks := tk' } ∧ tok ++ cat l = Tt ∧ tok.length + l.length ≤ 50 ∧ (∀ x ∈ l, Plain x.1) ∧ 1 ≤ tk' ∧ (2 ≤ tok.length → Okt tt tk') ∧ Fr h₀ L h' m' ∧ m' (Str.ofString "self") = some (.ref r) ∧ m' (Str.ofString "token") = some (.str tok tt) ∧ News h₀ L h' ((lf, listOf (strValues l ++ .str sep tsep :: chars).toArray n') :: (f, lamObj lamE cell cod pm ct) :: (cod, oc) :: (cell, ol) :: (r, instObj 52 d) :: (d, lexDict w.params t1 t2 t3 t4 t5 (.int k tl') (.ref S) pb) :: (S, instObj 52 dS) :: (dS, strDict w.params u1 u2 u3 u4 u5 u6 u7 q f) :: rest)) →
      OwitRest prog w (ktrTop dp un gd (Str.ofString "_netrclex.get_token") cs L 42 (.ref 41) [] outer) E (envOf (Str.ofString "_netrclex.get_token") cs L 42 (.ref 41)) (Str.ofString "ch") body P I fu s' := by
  k_with_none
  w_top off
  k_with "call builtin:list.pop" => (k_here; (with_reducible show wpAny _ _ (call (Value.builtin _) [Value.ref _, Value.int 0 _]) _ _ _); k_dflt (refine pop0 (by k_asm) (by k_asm) (by k_upd) (by assumption) ?_); intro _ _ _)
  k_with "truthy ref" => (k_here; k_dflt (refine truthyCons (by k_asm) (by k_mem) (by assumption) ?_); (try rw [if_pos rfl]))
  k_with "call builtin:len" => (k_here; (with_reducible show wpAny _ _ (call (Value.builtin "len") [Value.ref _]) _ _ _); k_dflt (refine lenLed (by k_asm) (by k_mem) (by first | assumption | (simp only [List.length_cons, List.length_nil]; omega)) ?_))
  k_with "call builtin:iter" => (k_here; (with_reducible show wpAny _ _ (call (Value.builtin "iter") [Value.ref _, Value.str _ _]) _ _ _); k_dflt (refine iter2 (by k_asm) (by k_asm) (by k_mem) ?_); intro _ _ _ _ lz9; (try k_lt lz9))
  k_with "exec For Name Name cons nil" => (k_here; k_dflt (refine owit_for ?_))
  k_with "pyIter ref" => ((with_reducible show wpAny _ _ (pyIter (Value.ref _)) (OwitAt _ _ _ _ _ _ _ _) _ _); k_here; k_dflt (refine iter_self (by exact News.get (by k_asm) (by k_mem)) ?_))
  k_with "OwitRest" => refine hold ?_
  k_with "ite" => first | refine iteT (by with_reducible assumption) ?_ | refine iteF (by with_reducible assumption) ?_
  k_with "execs cons" => ((with_reducible refine wpAny_execs_cons ?_); try dsimp only)
  k_with "execs nil" => refine wpAny_execs_nil ?_
  k_with "inplaceOp Add str str" => refine hold ?_
  rw [show quoteFor = .For _ _ _ _ _ from rfl] at hb
  cases hb
  obtain rfl : cs = Scope.mk _ _ _ _ _ := hcs.symm.trans rfl
  refine owit_words ?_ ?_
  · rintro fu ⟨c, tc⟩ l s' ⟨tok, tt, h', tk', n', tl', m', rfl, hT, hz, hp, hk1, hk2, F, ms, mt, N⟩ IH
    have F1 := frMap (m' := fun z => if z = Str.ofString "token" then some (.str tok tt) else if z = Str.ofString "self" then some (.ref r) else m' z) F (fun z => by
      by_cases h1 : z = Str.ofString "token"
      · rw [if_pos h1, h1, mt]
      · rw [if_neg h1]
        by_cases h2 : z = Str.ofString "self"
        · rw [if_pos h2, h2, ms]
        · rw [if_neg h2])
    clear F
    have hc := hp _ (.head _)
    obtain ⟨c1, c2, c3, c4, c5, c6, c7⟩ := hc
    dsimp only at c1 c2 c3 c4 c5 c6 c7
    simp only [List.length_cons] at hz
    have hll : (strValues l ++ Value.str sep tsep :: chars).length ≤ 1000 := by simp only [strValues, List.length_append, List.length_map, List.length_cons]; omega
    refine OwitRest.succ ?_
    refine wpAny_with_toks (n := tk') (Nat.le_refl _) (nextc B F1 X N T rfl CH hoc hvs hol hrest hrestd h1 h2 h3 h4 h5 h6 h7 d1 d2 d3 d4 d5 d6 mI mq hll c1 c2 hdp hun ?_)
    rw [if_neg c3]
    intro t'' tl'' h'' tk'' F'' N'' hk3
    dsimp only at hk3
    k_steps
    refine Hold.out (iaddT c2 (by omega) (fun t4 k4 hk4 hk5 => ?_))
    dsimp only at hk4 hk5
    k_steps
    refine Hold.out (IH _ ⟨tok ++ c, _, _, _, _, _, _, rfl, ?_, ?_, fun x hx => hp x (.tail _ hx), by omega, ?_, by assumption, rfl, rfl, by assumption⟩)
    · rw [← hT, Str.append_assoc]; rfl
    · rw [Str.length_append]; omega
    · rw [Str.length_append]
      intro hl2
      have hq := hk5 (by omega)
      exact ⟨by rw [hq.1]; omega, by rw [hq.1, hq.2]; omega⟩
  · rintro fu s' ⟨tok, tt, h', tk', n', tl', m', rfl, hT, hz, hp, hk1, hk2, F, ms, mt, N⟩
    have F1 := frMap (m' := fun z => if z = Str.ofString "token" then some (.str tok tt) else if z = Str.ofString "self" then some (.ref r) else m' z) F (fun z => by
      by_cases h1 : z = Str.ofString "token"
      · rw [if_pos h1, h1, mt]
      · rw [if_neg h1]
        by_cases h2 : z = Str.ofString "self"
        · rw [if_pos h2, h2, ms]
        · rw [if_neg h2])
    clear F
    refine OwitRest.succ ?_
    refine wpAny_with_toks (n := tk') (Nat.le_refl _) (nextc B F1 X N T rfl CH hoc hvs hol hrest hrestd h1 h2 h3 h4 h5 h6 h7 d1 d2 d3 d4 d5 d6 mI mq (by omega) hs1 hs2 hdp hun ?_)
    rw [if_neg hs4]
    intro t'' tl'' h'' tk'' F'' N'' hk3
    dsimp only at hk3
    k_steps
    have e : tok = Tt := by
      rw [← hT]
      exact (Str.append_right_empty (by rfl)).symm
    subst e
    refine hret _ _ _ _ _ _ (by assumption) (by assumption) ?_ ?_
    · omega
    · intro hl2; exact (hk2 hl2).mono (by omega)
end
/-! part PgH -/
local macro_rules | `(tactic| k_mem) => `(tactic| assumption)
section
variable {prog : Program} {w : World} {p : Program} {loose : List Str} {mean : ExcName → Option Value} {mg mb : Str → Option Value}
    {dp un : Nat} {gd : Option (List Code)} {cn : Str} {cs : Scope} {a : Addr} {ccd : Value} {cl : List (Str × Addr)} {outer : List Env} {A₀ : Around} {base h₀ : Heap} {L : Addr} {m : Str → Option Value} {s : Shared} {Q E : Value → Shared → Prop} {news : List (Addr × Obj)}
theorem outer_bare {tg it : PySem.Expr} {body orelse : List PySem.Stmt} {pos : Pos} (hb : tokFor = .For tg it body orelse pos) (hcs : scopeOf tokDef = cs) {f cell cod lf r d S dS pb q I qm : Addr} {pm ct : Value} {oc ol : Obj} {vs : Array Value} {tq tl ti t1 t2 t3 t4 t5 u1 u2 u3 u4 u5 u6 u7 : Tok} {k : Int} {chars : List Value} {n : Nat} {rest : List (Addr × Obj)} {c sep : Str} {tc tsep : Tok} {l : List (Str × Tok)} {fu : Nat} {tt : Tok} {P : Flow → Shared → Prop}
    (B : Below A₀ base outer h₀) (F : Fr h₀ L s.heap m) (X : (Mine.hd.heap_39 w.params).In h₀) (N : News h₀ L s.heap ((lf, listOf (.str c tc :: (strValues l ++ .str sep tsep :: chars)).toArray n) :: (f, lamObj lamE cell cod pm ct) :: (cod, oc) :: (cell, ol) :: (r, instObj 52 d) :: (d, lexDict w.params t1 t2 t3 t4 t5 (.int k tl) (.ref S) pb) :: (S, instObj 52 dS) :: (dS, strDict w.params u1 u2 u3 u4 u5 u6 u7 q f) :: rest)) (T : Top p loose mean mg mb h₀)
    (ms : m (Str.ofString "self") = some (.ref r)) (mt : m (Str.ofString "token") = some (.str (Str.ofString "") tt)) (mf : m (Str.ofString "fiter") = some (.ref I))
    (CH : CodeHd base 104 100) (hoc : oc.data = .fields vs) (hvs : vs[1]? = some (.str qualL tq)) (hol : ol.data = .cell (some (.ref lf)))
    (hrest : ∀ q ∈ rest, q.1 ≠ lf) (hrestd : ∀ q ∈ rest, q.1 ≠ d) (h1 : @Ne Nat f lf) (h2 : @Ne Nat cod lf) (h3 : @Ne Nat cell lf) (h4 : @Ne Nat r lf) (h5 : @Ne Nat d lf) (h6 : @Ne Nat S lf) (h7 : @Ne Nat dS lf)
    (d1 : @Ne Nat f d) (d2 : @Ne Nat cod d) (d3 : @Ne Nat cell d) (d4 : @Ne Nat r d) (d5 : @Ne Nat S d) (d6 : @Ne Nat dS d)
    (mI : (I, itObj qm ti) ∈ rest) (mq : (qm, methodObj (.ref 35) (.ref r)) ∈ rest) (hpos : 1 ≤ s.toks) (hlen : chars.length ≤ 900) (hc : Plain c) (hl : ∀ x ∈ l, Plain x.1) (hll : l.length ≤ 40) (hs1 : sep.length ≤ 1) (hs2 : sep ≠ Str.ofString "") (hs3 : inWs sep = false) (hs4 : (!inWs sep) = true)
    (hdp : dp + 2 < recursionLimit) (hun : un + 17 < cLine) (hE : PassesOwn (model prog w) (ktrTop dp un gd (Str.ofString "_netrclex.get_token") cs L 42 (.ref 41) [] outer) (envOf (Str.ofString "_netrclex.get_token") cs L 42 (.ref 41)) E)
    (hret : ∀ (t' tl' : Tok) (n' : Nat) (h' : Heap) (tk' : Nat) (m' : Str → Option Value), Fr h₀ L h' m' → News h₀ L h' ((lf, listOf (chars).toArray n') :: (f, lamObj lamE cell cod pm ct) :: (cod, oc) :: (cell, ol) :: (r, instObj 52 d) :: (d, lexDict w.params t1 t2 t3 t4 t5 (.int (if sep = Str.ofString "\n" then k + 1 else k) tl') (.ref S) pb) :: (S, instObj 52 dS) :: (dS, strDict w.params u1 u2 u3 u4 u5 u6 u7 q f) :: rest) → 1 ≤ tk' → (2 ≤ ((c ++ cat l)).length → Okt t' tk') → P (.ret (.str (c ++ cat l) t')) { s with heap := h', toks := tk' }) :
    OwitRest prog w (ktrTop dp un gd (Str.ofString "_netrclex.get_token") cs L 42 (.ref 41) [] outer) E (envOf (Str.ofString "_netrclex.get_token") cs L 42 (.ref 41)) (Str.ofString "ch") body P I (fu + 1) s := by
  k_with_none
  w_top off
  k_with "call builtin:list.pop" => (k_here; (with_reducible show wpAny _ _ (call (Value.builtin _) [Value.ref _, Value.int 0 _]) _ _ _); k_dflt (refine pop0 (by k_asm) (by k_asm) (by k_upd) (by assumption) ?_); intro _ _ _)
  k_with "truthy ref" => (k_here; k_dflt (refine truthyCons (by k_asm) (by k_mem) (by assumption) ?_); (try rw [if_pos rfl]))
  k_with "call builtin:len" => (k_here; (with_reducible show wpAny _ _ (call (Value.builtin "len") [Value.ref _]) _ _ _); k_dflt (refine lenLed (by k_asm) (by k_mem) (by first | assumption | (simp only [List.length_cons, List.length_nil]; omega)) ?_))
  k_with "call builtin:iter" => (k_here; (with_reducible show wpAny _ _ (call (Value.builtin "iter") [Value.ref _, Value.str _ _]) _ _ _); k_dflt (refine iter2 (by k_asm) (by k_asm) (by k_mem) ?_); intro _ _ _ _ lz9; (try k_lt lz9))
  k_with "exec For Name Name cons nil" => (k_here; k_dflt (refine owit_for ?_))
  k_with "pyIter ref" => ((with_reducible show wpAny _ _ (pyIter (Value.ref _)) (OwitAt _ _ _ _ _ _ _ _) _ _); k_here; k_dflt (refine iter_self (by exact News.get (by k_asm) (by k_mem)) ?_))
  k_with "OwitRest" => refine hold ?_
  k_with "exec For Name Name cons nil" => (k_here; k_dflt (refine owit_for ?_ (by intro _; rfl) (by assumption)))
  k_with "ite" => first | refine iteT (by with_reducible assumption) ?_ | refine iteF (by with_reducible assumption) ?_
  k_with "execs cons" => ((with_reducible refine wpAny_execs_cons ?_); try dsimp only)
  k_with "execs nil" => refine wpAny_execs_nil ?_
  k_with "inplaceOp Add str str" => refine hold ?_
  k_with "call ref" => (k_dflt (show wpAny _ _ (call (Value.ref 35) [Value.ref _]) _ _ _); refine hold ?_)
  rw [show tokFor = .For _ _ _ _ _ from rfl] at hb
  cases hb
  obtain rfl : cs = Scope.mk _ _ _ _ _ := hcs.symm.trans rfl
  have F1 := frMap (m' := fun z => if z = Str.ofString "token" then some (.str (Str.ofString "") tt) else if z = Str.ofString "self" then some (.ref r) else if z = Str.ofString "fiter" then some (.ref I) else m z) F (fun z => by
      by_cases h1 : z = Str.ofString "token"
      · rw [if_pos h1, h1, mt]
      · rw [if_neg h1]
        by_cases h2 : z = Str.ofString "self"
        · rw [if_pos h2, h2, ms]
        · rw [if_neg h2]
          by_cases h3 : z = Str.ofString "fiter"
          · rw [if_pos h3, h3, mf]
          · rw [if_neg h3])
  clear F
  refine OwitRest.succ ?_
  obtain ⟨c1, c2, c3, c4, c5, c6, c7⟩ := hc
  have hzz : (strValues l ++ Value.str sep tsep :: chars).length ≤ 1000 := by simp only [strValues, List.length_append, List.length_map, List.length_cons]; omega
  have hz0 : (Str.ofString "").length = 0 := by decide
  refine wpAny_with_toks (n := s.toks) (Nat.le_refl _) (nextc B F1 X N T rfl CH hoc hvs hol hrest hrestd h1 h2 h3 h4 h5 h6 h7 d1 d2 d3 d4 d5 d6 mI mq hzz c1 c2 hdp hun ?_)
  rw [if_neg c3]
  intro t'' tl'' h'' tk'' F'' N'' hk3
  dsimp only at hk3
  k_steps
  refine Hold.out (iaddT c2 (by omega) (fun t4 k4 hk4 hk5 => ?_))
  dsimp only at hk4 hk5
  k_steps
  refine Hold.out (bare_loop (n := 0) (tl := 0) (s := s) (Tt := c ++ cat l) rfl rfl B X T CH hoc hvs hol hrest hrestd h1 h2 h3 h4 h5 h6 h7 d1 d2 d3 d4 d5 d6 mI mq hlen hs1 hs2 hs3 hs4 hdp hun ?_ l 64 _ (by omega) ⟨Str.ofString "" ++ c, _, _, _, _, _, _, rfl, congrArg (· ++ cat l) (Str.append_left_empty (by rfl)), ?_, hl, by omega, ?_, by assumption, rfl, rfl, by assumption⟩)
  · intro t3 tl3 n3 h3 tk3 m3 F3 N3 ht3 ho3
    k_steps
    exact hret _ _ _ _ _ _ F3 N3 ht3 ho3
  · rw [Str.length_append, hz0]; omega
  · intro hl2; rw [Str.length_append, hz0] at hl2; omega
theorem outer_quote {tg it : PySem.Expr} {body orelse : List PySem.Stmt} {pos : Pos} (hb : tokFor = .For tg it body orelse pos) (hcs : scopeOf tokDef = cs) {f cell cod lf r d S dS pb q I qm : Addr} {pm ct : Value} {oc ol : Obj} {vs : Array Value} {tq tl ti t1 t2 t3 t4 t5 u1 u2 u3 u4 u5 u6 u7 : Tok} {k : Int} {chars : List Value} {n : Nat} {rest : List (Addr × Obj)} {c sep : Str} {tc tsep : Tok} {l : List (Str × Tok)} {fu : Nat} {tt : Tok} {P : Flow → Shared → Prop}
    (B : Below A₀ base outer h₀) (F : Fr h₀ L s.heap m) (X : (Mine.hd.heap_39 w.params).In h₀) (N : News h₀ L s.heap ((lf, listOf (.str c tc :: (strValues l ++ .str sep tsep :: chars)).toArray n) :: (f, lamObj lamE cell cod pm ct) :: (cod, oc) :: (cell, ol) :: (r, instObj 52 d) :: (d, lexDict w.params t1 t2 t3 t4 t5 (.int k tl) (.ref S) pb) :: (S, instObj 52 dS) :: (dS, strDict w.params u1 u2 u3 u4 u5 u6 u7 q f) :: rest)) (T : Top p loose mean mg mb h₀)
    (ms : m (Str.ofString "self") = some (.ref r)) (mt : m (Str.ofString "token") = some (.str (Str.ofString "") tt)) (mf : m (Str.ofString "fiter") = some (.ref I))
    (CH : CodeHd base 104 100) (hoc : oc.data = .fields vs) (hvs : vs[1]? = some (.str qualL tq)) (hol : ol.data = .cell (some (.ref lf)))
    (hrest : ∀ q ∈ rest, q.1 ≠ lf) (hrestd : ∀ q ∈ rest, q.1 ≠ d) (h1 : @Ne Nat f lf) (h2 : @Ne Nat cod lf) (h3 : @Ne Nat cell lf) (h4 : @Ne Nat r lf) (h5 : @Ne Nat d lf) (h6 : @Ne Nat S lf) (h7 : @Ne Nat dS lf)
    (d1 : @Ne Nat f d) (d2 : @Ne Nat cod d) (d3 : @Ne Nat cell d) (d4 : @Ne Nat r d) (d5 : @Ne Nat S d) (d6 : @Ne Nat dS d)
    (mI : (I, itObj qm ti) ∈ rest) (mq : (qm, methodObj (.ref 35) (.ref r)) ∈ rest) (hpos : 1 ≤ s.toks) (hlen : chars.length ≤ 900) (hc : c = Str.ofString "\"") (hl : ∀ x ∈ l, Plain x.1) (hll : l.length ≤ 40) (hs : sep = Str.ofString "\"")
    (hdp : dp + 2 < recursionLimit) (hun : un + 17 < cLine) (hE : PassesOwn (model prog w) (ktrTop dp un gd (Str.ofString "_netrclex.get_token") cs L 42 (.ref 41) [] outer) (envOf (Str.ofString "_netrclex.get_token") cs L 42 (.ref 41)) E)
    (hret : ∀ (t' tl' : Tok) (n' : Nat) (h' : Heap) (tk' : Nat) (m' : Str → Option Value), Fr h₀ L h' m' → News h₀ L h' ((lf, listOf (chars).toArray n') :: (f, lamObj lamE cell cod pm ct) :: (cod, oc) :: (cell, ol) :: (r, instObj 52 d) :: (d, lexDict w.params t1 t2 t3 t4 t5 (.int k tl') (.ref S) pb) :: (S, instObj 52 dS) :: (dS, strDict w.params u1 u2 u3 u4 u5 u6 u7 q f) :: rest) → 1 ≤ tk' → (2 ≤ ((cat l)).length → Okt t' tk') → P (.ret (.str (cat l) t')) { s with heap := h', toks := tk' }) :
    OwitRest prog w (ktrTop dp un gd (Str.ofString "_netrclex.get_token") cs L 42 (.ref 41) [] outer) E (envOf (Str.ofString "_netrclex.get_token") cs L 42 (.ref 41)) (Str.ofString "ch") body P I (fu + 1) s := by
  k_with_none
  w_top off
  k_with "call builtin:list.pop" => (k_here; (with_reducible show wpAny _ _ (call (Value.builtin _) [Value.ref _, Value.int 0 _]) _ _ _); k_dflt (refine pop0 (by k_asm) (by k_asm) (by k_upd) (by assumption) ?_); intro _ _ _)
  k_with "truthy ref" => (k_here; k_dflt (refine truthyCons (by k_asm) (by k_mem) (by assumption) ?_); (try rw [if_pos rfl]))
  k_with "call builtin:len" => (k_here; (with_reducible show wpAny _ _ (call (Value.builtin "len") [Value.ref _]) _ _ _); k_dflt (refine lenLed (by k_asm) (by k_mem) (by first | assumption | (simp only [List.length_cons, List.length_nil]; omega)) ?_))
  k_with "call builtin:iter" => (k_here; (with_reducible show wpAny _ _ (call (Value.builtin "iter") [Value.ref _, Value.str _ _]) _ _ _); k_dflt (refine iter2 (by k_asm) (by k_asm) (by k_mem) ?_); intro _ _ _ _ lz9; (try k_lt lz9))
  k_with "exec For Name Name cons nil" => (k_here; k_dflt (refine owit_for ?_))
  k_with "pyIter ref" => ((with_reducible show wpAny _ _ (pyIter (Value.ref _)) (OwitAt _ _ _ _ _ _ _ _) _ _); k_here; k_dflt (refine iter_self (by exact News.get (by k_asm) (by k_mem)) ?_))
  k_with "OwitRest" => refine hold ?_
  k_with "exec For Name Name cons nil" => (k_here; k_dflt (refine owit_for ?_ (by intro _; rfl) (by assumption)))
  k_with "ite" => first | refine iteT (by with_reducible assumption) ?_ | refine iteF (by with_reducible assumption) ?_
  k_with "execs cons" => ((with_reducible refine wpAny_execs_cons ?_); try dsimp only)
  k_with "execs nil" => refine wpAny_execs_nil ?_
  k_with "inplaceOp Add str str" => refine hold ?_
  k_with "call ref" => (k_dflt (show wpAny _ _ (call (Value.ref 35) [Value.ref _]) _ _ _); refine hold ?_)
  rw [show tokFor = .For _ _ _ _ _ from rfl] at hb
  cases hb
  obtain rfl : cs = Scope.mk _ _ _ _ _ := hcs.symm.trans rfl
  have F1 := frMap (m' := fun z => if z = Str.ofString "token" then some (.str (Str.ofString "") tt) else if z = Str.ofString "self" then some (.ref r) else if z = Str.ofString "fiter" then some (.ref I) else m z) F (fun z => by
      by_cases h1 : z = Str.ofString "token"
      · rw [if_pos h1, h1, mt]
      · rw [if_neg h1]
        by_cases h2 : z = Str.ofString "self"
        · rw [if_pos h2, h2, ms]
        · rw [if_neg h2]
          by_cases h3 : z = Str.ofString "fiter"
          · rw [if_pos h3, h3, mf]
          · rw [if_neg h3])
  clear F
  refine OwitRest.succ ?_
  subst hc
  subst hs
  have w0 : inWs (Str.ofString "\"") = true := by decide +kernel
  have w1 : (!inWs (Str.ofString "\"")) = false := by decide +kernel
  have hzz : (strValues l ++ Value.str (Str.ofString "\"") tsep :: chars).length ≤ 1000 := by simp only [strValues, List.length_append, List.length_map, List.length_cons]; omega
  have hz0 : (Str.ofString "").length = 0 := by decide
  refine wpAny_with_toks (n := s.toks) (Nat.le_refl _) (nextc B F1 X N T rfl CH hoc hvs hol hrest hrestd h1 h2 h3 h4 h5 h6 h7 d1 d2 d3 d4 d5 d6 mI mq hzz (by decide) (by decide) hdp hun ?_)
  rw [if_neg (by decide)]
  intro t'' tl'' h'' tk'' F'' N'' hk3
  dsimp only at hk3
  k_steps
  refine Hold.out (quote_loop (n := 0) (tl := 0) (s := s) (sep := Str.ofString "\"") (tsep := tsep) (chars := chars) (Tt := cat l) rfl rfl B X T CH hoc hvs hol hrest hrestd h1 h2 h3 h4 h5 h6 h7 d1 d2 d3 d4 d5 d6 mI mq hlen (by decide) (by decide) (by decide) (by decide) hdp hun ?_ l 64 _ (by omega) ⟨Str.ofString "", _, _, _, _, _, _, rfl, Str.append_left_empty (by rfl), ?_, hl, by omega, fun hl2 => absurd hl2 (by rw [hz0]; omega), by assumption, rfl, rfl, by assumption⟩)
  · intro t3 tl3 n3 h3 tk3 m3 F3 N3 ht3 ho3
    k_steps
    exact hret _ _ _ _ _ _ F3 N3 ht3 ho3
  · rw [hz0]; omega
theorem outer_back {tg it : PySem.Expr} {body orelse : List PySem.Stmt} {pos : Pos} (hb : tokFor = .For tg it body orelse pos) (hcs : scopeOf tokDef = cs) {f cell cod lf r d S dS pb q I qm : Addr} {pm ct : Value} {oc ol : Obj} {vs : Array Value} {tq tl ti t1 t2 t3 t4 t5 u1 u2 u3 u4 u5 u6 u7 : Tok} {k : Int} {chars : List Value} {n : Nat} {rest : List (Addr × Obj)} {e c sep : Str} {te tc tsep : Tok} {l : List (Str × Tok)} {fu : Nat} {tt : Tok} {P : Flow → Shared → Prop}
    (B : Below A₀ base outer h₀) (F : Fr h₀ L s.heap m) (X : (Mine.hd.heap_39 w.params).In h₀) (N : News h₀ L s.heap ((lf, listOf (.str e te :: .str c tc :: (strValues l ++ .str sep tsep :: chars)).toArray n) :: (f, lamObj lamE cell cod pm ct) :: (cod, oc) :: (cell, ol) :: (r, instObj 52 d) :: (d, lexDict w.params t1 t2 t3 t4 t5 (.int k tl) (.ref S) pb) :: (S, instObj 52 dS) :: (dS, strDict w.params u1 u2 u3 u4 u5 u6 u7 q f) :: rest)) (T : Top p loose mean mg mb h₀)
    (ms : m (Str.ofString "self") = some (.ref r)) (mt : m (Str.ofString "token") = some (.str (Str.ofString "") tt)) (mf : m (Str.ofString "fiter") = some (.ref I))
    (CH : CodeHd base 104 100) (hoc : oc.data = .fields vs) (hvs : vs[1]? = some (.str qualL tq)) (hol : ol.data = .cell (some (.ref lf)))
    (hrest : ∀ q ∈ rest, q.1 ≠ lf) (hrestd : ∀ q ∈ rest, q.1 ≠ d) (h1 : @Ne Nat f lf) (h2 : @Ne Nat cod lf) (h3 : @Ne Nat cell lf) (h4 : @Ne Nat r lf) (h5 : @Ne Nat d lf) (h6 : @Ne Nat S lf) (h7 : @Ne Nat dS lf)
    (d1 : @Ne Nat f d) (d2 : @Ne Nat cod d) (d3 : @Ne Nat cell d) (d4 : @Ne Nat r d) (d5 : @Ne Nat S d) (d6 : @Ne Nat dS d)
    (mI : (I, itObj qm ti) ∈ rest) (mq : (qm, methodObj (.ref 35) (.ref r)) ∈ rest) (hpos : 1 ≤ s.toks) (hlen : chars.length ≤ 900) (he : e = Str.ofString "\\") (hc : Plain c) (hl : ∀ x ∈ l, Plain x.1) (hll : l.length ≤ 40) (hs1 : sep.length ≤ 1) (hs2 : sep ≠ Str.ofString "") (hs3 : inWs sep = false) (hs4 : (!inWs sep) = true)
    (hdp : dp + 2 < recursionLimit) (hun : un + 17 < cLine) (hE : PassesOwn (model prog w) (ktrTop dp un gd (Str.ofString "_netrclex.get_token") cs L 42 (.ref 41) [] outer) (envOf (Str.ofString "_netrclex.get_token") cs L 42 (.ref 41)) E)
    (hret : ∀ (t' tl' : Tok) (n' : Nat) (h' : Heap) (tk' : Nat) (m' : Str → Option Value), Fr h₀ L h' m' → News h₀ L h' ((lf, listOf (chars).toArray n') :: (f, lamObj lamE cell cod pm ct) :: (cod, oc) :: (cell, ol) :: (r, instObj 52 d) :: (d, lexDict w.params t1 t2 t3 t4 t5 (.int (if sep = Str.ofString "\n" then k + 1 else k) tl') (.ref S) pb) :: (S, instObj 52 dS) :: (dS, strDict w.params u1 u2 u3 u4 u5 u6 u7 q f) :: rest) → 1 ≤ tk' → (2 ≤ ((c ++ cat l)).length → Okt t' tk') → P (.ret (.str (c ++ cat l) t')) { s with heap := h', toks := tk' }) :
    OwitRest prog w (ktrTop dp un gd (Str.ofString "_netrclex.get_token") cs L 42 (.ref 41) [] outer) E (envOf (Str.ofString "_netrclex.get_token") cs L 42 (.ref 41)) (Str.ofString "ch") body P I (fu + 1) s := by
  k_with_none
  w_top off
  k_with "call builtin:list.pop" => (k_here; (with_reducible show wpAny _ _ (call (Value.builtin _) [Value.ref _, Value.int 0 _]) _ _ _); k_dflt (refine pop0 (by k_asm) (by k_asm) (by k_upd) (by assumption) ?_); intro _ _ _)
  k_with "truthy ref" => (k_here; k_dflt (refine truthyCons (by k_asm) (by k_mem) (by assumption) ?_); (try rw [if_pos rfl]))
  k_with "call builtin:len" => (k_here; (with_reducible show wpAny _ _ (call (Value.builtin "len") [Value.ref _]) _ _ _); k_dflt (refine lenLed (by k_asm) (by k_mem) (by first | assumption | (simp only [List.length_cons, List.length_nil]; omega)) ?_))
  k_with "call builtin:iter" => (k_here; (with_reducible show wpAny _ _ (call (Value.builtin "iter") [Value.ref _, Value.str _ _]) _ _ _); k_dflt (refine iter2 (by k_asm) (by k_asm) (by k_mem) ?_); intro _ _ _ _ lz9; (try k_lt lz9))
  k_with "exec For Name Name cons nil" => (k_here; k_dflt (refine owit_for ?_))
  k_with "pyIter ref" => ((with_reducible show wpAny _ _ (pyIter (Value.ref _)) (OwitAt _ _ _ _ _ _ _ _) _ _); k_here; k_dflt (refine iter_self (by exact News.get (by k_asm) (by k_mem)) ?_))
  k_with "OwitRest" => refine hold ?_
  k_with "exec For Name Name cons nil" => (k_here; k_dflt (refine owit_for ?_ (by intro _; rfl) (by assumption)))
  k_with "ite" => first | refine iteT (by with_reducible assumption) ?_ | refine iteF (by with_reducible assumption) ?_
  k_with "execs cons" => ((with_reducible refine wpAny_execs_cons ?_); try dsimp only)
  k_with "execs nil" => refine wpAny_execs_nil ?_
  k_with "inplaceOp Add str str" => refine hold ?_
  k_with "call ref" => (k_dflt (show wpAny _ _ (call (Value.ref 35) [Value.ref _]) _ _ _); refine hold ?_)
  rw [show tokFor = .For _ _ _ _ _ from rfl] at hb
  cases hb
  obtain rfl : cs = Scope.mk _ _ _ _ _ := hcs.symm.trans rfl
  have F1 := frMap (m' := fun z => if z = Str.ofString "token" then some (.str (Str.ofString "") tt) else if z = Str.ofString "self" then some (.ref r) else if z = Str.ofString "fiter" then some (.ref I) else m z) F (fun z => by
      by_cases h1 : z = Str.ofString "token"
      · rw [if_pos h1, h1, mt]
      · rw [if_neg h1]
        by_cases h2 : z = Str.ofString "self"
        · rw [if_pos h2, h2, ms]
        · rw [if_neg h2]
          by_cases h3 : z = Str.ofString "fiter"
          · rw [if_pos h3, h3, mf]
          · rw [if_neg h3])
  clear F
  refine OwitRest.succ ?_
  subst he
  have w0 : inWs (Str.ofString "\\") = true := by decide +kernel
  have w1 : (!inWs (Str.ofString "\\")) = false := by decide +kernel
  obtain ⟨c1, c2, c3, c4, c5, c6, c7⟩ := hc
  have hzz : (strValues l ++ Value.str sep tsep :: chars).length ≤ 1000 := by simp only [strValues, List.length_append, List.length_map, List.length_cons]; omega
  have hzy : (Value.str c tc :: (strValues l ++ Value.str sep tsep :: chars)).length ≤ 1000 := by simp only [strValues, List.length_append, List.length_map, List.length_cons]; omega
  have hz0 : (Str.ofString "").length = 0 := by decide
  refine wpAny_with_toks (n := s.toks) (Nat.le_refl _) (nextc B F1 X N T rfl CH hoc hvs hol hrest hrestd h1 h2 h3 h4 h5 h6 h7 d1 d2 d3 d4 d5 d6 mI mq hzy (by decide) (by decide) hdp hun ?_)
  rw [if_neg (by decide)]
  intro t'' tl'' h'' tk'' F'' N'' hk3
  dsimp only at hk3
  k_steps
  refine Hold.out (wpAny_with_toks (n := s.toks) (by first | exact hk3 | (dsimp only; omega)) (wpAny_call (read_s B (by k_asm) X (by k_asm) T (by rfl) CH hoc hvs hol hrest hrestd h1 h2 h3 h4 h5 h6 h7 d1 d2 d3 d4 d5 d6 hzz c1 hdp (by ktr_units) ?_)))
  rw [if_neg c3]
  intro t2 tl2 hh2 tk2 F2 N2 hk6
  dsimp only at hk6
  k_steps
  refine Hold.out (iaddT c2 (by omega) (fun t4 k4 hk4 hk5 => ?_))
  dsimp only at hk4 hk5
  k_steps
  refine Hold.out (bare_loop (n := 0) (tl := 0) (s := s) (Tt := c ++ cat l) rfl rfl B X T CH hoc hvs hol hrest hrestd h1 h2 h3 h4 h5 h6 h7 d1 d2 d3 d4 d5 d6 mI mq hlen hs1 hs2 hs3 hs4 hdp hun ?_ l 64 _ (by omega) ⟨Str.ofString "" ++ c, _, _, _, _, _, _, rfl, congrArg (· ++ cat l) (Str.append_left_empty (by rfl)), ?_, hl, by omega, ?_, by assumption, rfl, rfl, by assumption⟩)
  · intro t3 tl3 n3 h3 tk3 m3 F3 N3 ht3 ho3
    k_steps
    exact hret _ _ _ _ _ _ F3 N3 ht3 ho3
  · rw [Str.length_append, hz0]; omega
  · intro hl2; rw [Str.length_append, hz0] at hl2; omega
theorem outer_ws {tg it : PySem.Expr} {body orelse : List PySem.Stmt} {pos : Pos} (hb : tokFor = .For tg it body orelse pos) (hcs : scopeOf tokDef = cs) {f cell cod lf r d S dS pb q I qm : Addr} {pm ct : Value} {oc ol : Obj} {vs : Array Value} {tq tl ti t1 t2 t3 t4 t5 u1 u2 u3 u4 u5 u6 u7 : Tok} {k : Int} {chars : List Value} {n : Nat} {rest : List (Addr × Obj)} {e : Str} {te : Tok} {fu : Nat} {tt : Tok} {P : Flow → Shared → Prop}
    (B : Below A₀ base outer h₀) (F : Fr h₀ L s.heap m) (X : (Mine.hd.heap_39 w.params).In h₀) (N : News h₀ L s.heap ((lf, listOf (.str e te :: chars).toArray n) :: (f, lamObj lamE cell cod pm ct) :: (cod, oc) :: (cell, ol) :: (r, instObj 52 d) :: (d, lexDict w.params t1 t2 t3 t4 t5 (.int k tl) (.ref S) pb) :: (S, instObj 52 dS) :: (dS, strDict w.params u1 u2 u3 u4 u5 u6 u7 q f) :: rest)) (T : Top p loose mean mg mb h₀)
    (ms : m (Str.ofString "self") = some (.ref r)) (mt : m (Str.ofString "token") = some (.str (Str.ofString "") tt)) (mf : m (Str.ofString "fiter") = some (.ref I))
    (CH : CodeHd base 104 100) (hoc : oc.data = .fields vs) (hvs : vs[1]? = some (.str qualL tq)) (hol : ol.data = .cell (some (.ref lf)))
    (hrest : ∀ q ∈ rest, q.1 ≠ lf) (hrestd : ∀ q ∈ rest, q.1 ≠ d) (h1 : @Ne Nat f lf) (h2 : @Ne Nat cod lf) (h3 : @Ne Nat cell lf) (h4 : @Ne Nat r lf) (h5 : @Ne Nat d lf) (h6 : @Ne Nat S lf) (h7 : @Ne Nat dS lf)
    (d1 : @Ne Nat f d) (d2 : @Ne Nat cod d) (d3 : @Ne Nat cell d) (d4 : @Ne Nat r d) (d5 : @Ne Nat S d) (d6 : @Ne Nat dS d)
    (mI : (I, itObj qm ti) ∈ rest) (mq : (qm, methodObj (.ref 35) (.ref r)) ∈ rest) (hpos : 1 ≤ s.toks) (hlen : chars.length ≤ 900) (he1 : e.length ≤ 1) (he2 : e ≠ Str.ofString "") (he3 : inWs e = false) (he4 : (!inWs e) = true) (he5 : ¬ e = Str.ofString "\n")
    (hdp : dp + 2 < recursionLimit) (hun : un + 17 < cLine) (hE : PassesOwn (model prog w) (ktrTop dp un gd (Str.ofString "_netrclex.get_token") cs L 42 (.ref 41) [] outer) (envOf (Str.ofString "_netrclex.get_token") cs L 42 (.ref 41)) E)
    (hret : ∀ (tl' : Tok) (n' : Nat) (h' : Heap) (tk' : Nat) (m' : Str → Option Value), Fr h₀ L h' m' → m' (Str.ofString "self") = some (.ref r) → m' (Str.ofString "token") = some (.str (Str.ofString "") tt) → m' (Str.ofString "fiter") = some (.ref I) → News h₀ L h' ((lf, listOf (chars).toArray n') :: (f, lamObj lamE cell cod pm ct) :: (cod, oc) :: (cell, ol) :: (r, instObj 52 d) :: (d, lexDict w.params t1 t2 t3 t4 t5 (.int k tl') (.ref S) pb) :: (S, instObj 52 dS) :: (dS, strDict w.params u1 u2 u3 u4 u5 u6 u7 q f) :: rest) → 1 ≤ tk' → OwitRest prog w (ktrTop dp un gd (Str.ofString "_netrclex.get_token") cs L 42 (.ref 41) [] outer) E (envOf (Str.ofString "_netrclex.get_token") cs L 42 (.ref 41)) (Str.ofString "ch") body P I fu { s with heap := h', toks := tk' }) :
    OwitRest prog w (ktrTop dp un gd (Str.ofString "_netrclex.get_token") cs L 42 (.ref 41) [] outer) E (envOf (Str.ofString "_netrclex.get_token") cs L 42 (.ref 41)) (Str.ofString "ch") body P I (fu + 1) s := by
  k_with_none
  w_top off
  k_with "call builtin:list.pop" => (k_here; (with_reducible show wpAny _ _ (call (Value.builtin _) [Value.ref _, Value.int 0 _]) _ _ _); k_dflt (refine pop0 (by k_asm) (by k_asm) (by k_upd) (by assumption) ?_); intro _ _ _)
  k_with "truthy ref" => (k_here; k_dflt (refine truthyCons (by k_asm) (by k_mem) (by assumption) ?_); (try rw [if_pos rfl]))
  k_with "call builtin:len" => (k_here; (with_reducible show wpAny _ _ (call (Value.builtin "len") [Value.ref _]) _ _ _); k_dflt (refine lenLed (by k_asm) (by k_mem) (by first | assumption | (simp only [List.length_cons, List.length_nil]; omega)) ?_))
  k_with "call builtin:iter" => (k_here; (with_reducible show wpAny _ _ (call (Value.builtin "iter") [Value.ref _, Value.str _ _]) _ _ _); k_dflt (refine iter2 (by k_asm) (by k_asm) (by k_mem) ?_); intro _ _ _ _ lz9; (try k_lt lz9))
  k_with "exec For Name Name cons nil" => (k_here; k_dflt (refine owit_for ?_))
  k_with "pyIter ref" => ((with_reducible show wpAny _ _ (pyIter (Value.ref _)) (OwitAt _ _ _ _ _ _ _ _) _ _); k_here; k_dflt (refine iter_self (by exact News.get (by k_asm) (by k_mem)) ?_))
  k_with "OwitRest" => refine hold ?_
  k_with "exec For Name Name cons nil" => (k_here; k_dflt (refine owit_for ?_ (by intro _; rfl) (by assumption)))
  k_with "ite" => first | refine iteT (by with_reducible assumption) ?_ | refine iteF (by with_reducible assumption) ?_
  k_with "execs cons" => ((with_reducible refine wpAny_execs_cons ?_); try dsimp only)
  k_with "execs nil" => refine wpAny_execs_nil ?_
  k_with "inplaceOp Add str str" => refine hold ?_
  k_with "call ref" => (k_dflt (show wpAny _ _ (call (Value.ref 35) [Value.ref _]) _ _ _); refine hold ?_)
  rw [show tokFor = .For _ _ _ _ _ from rfl] at hb
  cases hb
  obtain rfl : cs = Scope.mk _ _ _ _ _ := hcs.symm.trans rfl
  have F1 := frMap (m' := fun z => if z = Str.ofString "token" then some (.str (Str.ofString "") tt) else if z = Str.ofString "self" then some (.ref r) else if z = Str.ofString "fiter" then some (.ref I) else m z) F (fun z => by
      by_cases h1 : z = Str.ofString "token"
      · rw [if_pos h1, h1, mt]
      · rw [if_neg h1]
        by_cases h2 : z = Str.ofString "self"
        · rw [if_pos h2, h2, ms]
        · rw [if_neg h2]
          by_cases h3 : z = Str.ofString "fiter"
          · rw [if_pos h3, h3, mf]
          · rw [if_neg h3])
  clear F
  refine OwitRest.succ ?_
  refine wpAny_with_toks (n := s.toks) (Nat.le_refl _) (nextc B F1 X N T rfl CH hoc hvs hol hrest hrestd h1 h2 h3 h4 h5 h6 h7 d1 d2 d3 d4 d5 d6 mI mq (by omega) he1 he2 hdp hun ?_)
  rw [if_neg he5]
  intro t'' tl'' h'' tk'' F'' N'' hk3
  dsimp only at hk3
  k_steps
  exact Hold.out (hret _ _ _ _ _ (by assumption) rfl rfl rfl (by assumption) (by omega))
theorem outer_end {tg it : PySem.Expr} {body orelse : List PySem.Stmt} {pos : Pos} (hb : tokFor = .For tg it body orelse pos) (hcs : scopeOf tokDef = cs) {f cell cod lf r d S dS pb q I qm : Addr} {pm ct : Value} {oc ol : Obj} {vs : Array Value} {tq tl ti t1 t2 t3 t4 t5 u1 u2 u3 u4 u5 u6 u7 : Tok} {k : Int} {chars : List Value} {n : Nat} {rest : List (Addr × Obj)}  {fu : Nat} {tt : Tok} {P : Flow → Shared → Prop}
    (B : Below A₀ base outer h₀) (F : Fr h₀ L s.heap m) (X : (Mine.hd.heap_39 w.params).In h₀) (N : News h₀ L s.heap ((lf, listOf #[] n) :: (f, lamObj lamE cell cod pm ct) :: (cod, oc) :: (cell, ol) :: (r, instObj 52 d) :: (d, lexDict w.params t1 t2 t3 t4 t5 (.int k tl) (.ref S) pb) :: (S, instObj 52 dS) :: (dS, strDict w.params u1 u2 u3 u4 u5 u6 u7 q f) :: rest)) (T : Top p loose mean mg mb h₀)
    (ms : m (Str.ofString "self") = some (.ref r)) (mt : m (Str.ofString "token") = some (.str (Str.ofString "") tt)) (mf : m (Str.ofString "fiter") = some (.ref I))
    (CH : CodeHd base 104 100) (hoc : oc.data = .fields vs) (hvs : vs[1]? = some (.str qualL tq)) (hol : ol.data = .cell (some (.ref lf)))
    (hrest : ∀ q ∈ rest, q.1 ≠ lf) (hrestd : ∀ q ∈ rest, q.1 ≠ d) (h1 : @Ne Nat f lf) (h2 : @Ne Nat cod lf) (h3 : @Ne Nat cell lf) (h4 : @Ne Nat r lf) (h5 : @Ne Nat d lf) (h6 : @Ne Nat S lf) (h7 : @Ne Nat dS lf)
    (d1 : @Ne Nat f d) (d2 : @Ne Nat cod d) (d3 : @Ne Nat cell d) (d4 : @Ne Nat r d) (d5 : @Ne Nat S d) (d6 : @Ne Nat dS d)
    (mI : (I, itObj qm ti) ∈ rest) (mq : (qm, methodObj (.ref 35) (.ref r)) ∈ rest) (hpos : 1 ≤ s.toks) (hlen : chars.length ≤ 900) 
    (hdp : dp + 2 < recursionLimit) (hun : un + 17 < cLine) (hE : PassesOwn (model prog w) (ktrTop dp un gd (Str.ofString "_netrclex.get_token") cs L 42 (.ref 41) [] outer) (envOf (Str.ofString "_netrclex.get_token") cs L 42 (.ref 41)) E)
    (hret : ∀ (h h' : Heap) (tk' : Nat) (m' : Str → Option Value), Fr h₀ L h (fun z => if z = Str.ofString "token" then some (.str (Str.ofString "") tt) else if z = Str.ofString "self" then some (.ref r) else if z = Str.ofString "fiter" then some (.ref I) else m' z) → News h₀ L h ((lf, listOf #[] n) :: (f, lamObj lamE cell cod pm ct) :: (cod, oc) :: (cell, ol) :: (r, instObj 52 d) :: (d, lexDict w.params t1 t2 t3 t4 t5 (.int k tl) (.ref S) pb) :: (S, instObj 52 dS) :: (dS, strDict w.params u1 u2 u3 u4 u5 u6 u7 q f) :: rest) → Heap.ExtBut I h h' → P .next { s with heap := h', toks := tk' }) :
    OwitRest prog w (ktrTop dp un gd (Str.ofString "_netrclex.get_token") cs L 42 (.ref 41) [] outer) E (envOf (Str.ofString "_netrclex.get_token") cs L 42 (.ref 41)) (Str.ofString "ch") body P I (fu + 1) s := by
  k_with_none
  w_top off
  k_with "call builtin:list.pop" => (k_here; (with_reducible show wpAny _ _ (call (Value.builtin _) [Value.ref _, Value.int 0 _]) _ _ _); k_dflt (refine pop0 (by k_asm) (by k_asm) (by k_upd) (by assumption) ?_); intro _ _ _)
  k_with "truthy ref" => (k_here; k_dflt (refine truthyCons (by k_asm) (by k_mem) (by assumption) ?_); (try rw [if_pos rfl]))
  k_with "call builtin:len" => (k_here; (with_reducible show wpAny _ _ (call (Value.builtin "len") [Value.ref _]) _ _ _); k_dflt (refine lenLed (by k_asm) (by k_mem) (by first | assumption | (simp only [List.length_cons, List.length_nil]; omega)) ?_))
  k_with "call builtin:iter" => (k_here; (with_reducible show wpAny _ _ (call (Value.builtin "iter") [Value.ref _, Value.str _ _]) _ _ _); k_dflt (refine iter2 (by k_asm) (by k_asm) (by k_mem) ?_); intro _ _ _ _ lz9; (try k_lt lz9))
  k_with "exec For Name Name cons nil" => (k_here; k_dflt (refine owit_for ?_))
  k_with "pyIter ref" => ((with_reducible show wpAny _ _ (pyIter (Value.ref _)) (OwitAt _ _ _ _ _ _ _ _) _ _); k_here; k_dflt (refine iter_self (by exact News.get (by k_asm) (by k_mem)) ?_))
  k_with "OwitRest" => refine hold ?_
  k_with "exec For Name Name cons nil" => (k_here; k_dflt (refine owit_for ?_ (by intro _; rfl) (by assumption)))
  k_with "ite" => first | refine iteT (by with_reducible assumption) ?_ | refine iteF (by with_reducible assumption) ?_
  k_with "execs cons" => ((with_reducible refine wpAny_execs_cons ?_); try dsimp only)
  k_with "execs nil" => refine wpAny_execs_nil ?_
  k_with "inplaceOp Add str str" => refine hold ?_
  k_with "call ref" => (k_dflt (show wpAny _ _ (call (Value.ref 35) [Value.ref _]) _ _ _); refine hold ?_)
  rw [show tokFor = .For _ _ _ _ _ from rfl] at hb
  cases hb
  obtain rfl : cs = Scope.mk _ _ _ _ _ := hcs.symm.trans rfl
  have F1 := frMap (m' := fun z => if z = Str.ofString "token" then some (.str (Str.ofString "") tt) else if z = Str.ofString "self" then some (.ref r) else if z = Str.ofString "fiter" then some (.ref I) else m z) F (fun z => by
      by_cases h1 : z = Str.ofString "token"
      · rw [if_pos h1, h1, mt]
      · rw [if_neg h1]
        by_cases h2 : z = Str.ofString "self"
        · rw [if_pos h2, h2, ms]
        · rw [if_neg h2]
          by_cases h3 : z = Str.ofString "fiter"
          · rw [if_pos h3, h3, mf]
          · rw [if_neg h3])
  clear F
  refine OwitRest.succ ?_
  refine nexte (chars := []) B F1 X N T rfl CH hoc hvs hol mI mq hdp hun ?_
  intro h h' tk' F' N' e'
  k_steps
  exact hret _ _ _ _ F' N' e'
end
/-! part PgI -/
theorem memRot {α : Type} {a b x : α} {l8 rest : List α} (h : x ∈ l8 ++ (a :: b :: rest)) : x ∈ a :: b :: (l8 ++ rest) := by
  rcases List.mem_append.mp h with h | h
  · exact .tail _ (.tail _ (List.mem_append_left _ h))
  · rcases List.mem_cons.mp h with rfl | h
    · exact .head _
    · rcases List.mem_cons.mp h with rfl | h
      · exact .tail _ (.head _)
      · exact .tail _ (.tail _ (List.mem_append_right _ h))
theorem memDrop {α : Type} {a b x : α} {l8 rest : List α} (h : x ∈ l8 ++ rest) : x ∈ l8 ++ (a :: b :: rest) := by
  rcases List.mem_append.mp h with h | h
  · exact List.mem_append_left _ h
  · exact List.mem_append_right _ (.tail _ (.tail _ h))
theorem allLt_mem {d : Addr} : ∀ {l : List (Addr × Obj)}, AllLt d l → ∀ p ∈ l, p.1 ≠ d
  | [], _, _, h => nomatch h
  | _ :: _, x, p, h => by
    rcases List.mem_cons.mp h with rfl | h
    · exact Nat.ne_of_lt x.1
    · exact allLt_mem x.2 p h
theorem endHeap {g h h' : Heap} {L' I : Addr} {mm : Str → Option Value} {l8 rest : List (Addr × Obj)} {oI : Obj} {b : Addr × Obj} (F' : Fr g L' h mm) (N' : News g L' h (l8 ++ ((I, oI) :: b :: rest))) (e' : Heap.ExtBut I h h') (hne : ∀ p ∈ l8 ++ rest, p.1 ≠ I) :
    Fr g L' h' mm ∧ News g L' h' (l8 ++ rest) := by
  have hk : ∀ b o, b ∉ [I] → h.get? b = some o → h'.get? b = some o := fun b o hb e => e' b o (by simpa using hb) e
  have nI := N' (I, oI) (List.mem_append_right _ (.head _))
  exact ⟨LCg.fr_but F' hk (Ne.symm nI.2.1) nI.2.2, LCg.news_but (newsSub N' fun x hx => memDrop hx) hk hne⟩
section
variable {prog : Program} {w : World} {p : Program} {loose : List Str} {mean : ExcName → Option Value} {mg mb : Str → Option Value}
    {dp un : Nat} {gd : Option (List Code)} {cn : Str} {cs : Scope} {a : Addr} {ccd : Value} {cl : List (Str × Addr)} {outer : List Env} {A₀ : Around} {base h₀ : Heap} {L : Addr} {m : Str → Option Value} {s : Shared} {Q E : Value → Shared → Prop} {news : List (Addr × Obj)}
theorem tok_bare {f cell cod lf r d S dS pb q : Addr} {pm ct : Value} {oc ol : Obj} {vs : Array Value} {tq tl t1 t2 t3 t4 t5 u1 u2 u3 u4 u5 u6 u7 : Tok} {k : Int} {chars : List Value} {n np : Nat} {rest : List (Addr × Obj)} {c sep : Str} {tc tsep : Tok} {l : List (Str × Tok)}
    (B : Below A₀ base outer h₀) (F : Fr h₀ L s.heap m) (X : (Mine.hd.heap_39 w.params).In h₀) (N : News h₀ L s.heap ((lf, listOf (.str c tc :: (strValues l ++ .str sep tsep :: chars)).toArray n) :: (f, lamObj lamE cell cod pm ct) :: (cod, oc) :: (cell, ol) :: (r, instObj 52 d) :: (d, lexDict w.params t1 t2 t3 t4 t5 (.int k tl) (.ref S) pb) :: (S, instObj 52 dS) :: (dS, strDict w.params u1 u2 u3 u4 u5 u6 u7 q f) :: (pb, listOf #[] np) :: rest)) (T : Top p loose mean mg mb h₀) (hk : cs.kind = .function)
    (CH : CodeHd base 104 100) (hoc : oc.data = .fields vs) (hvs : vs[1]? = some (.str qualL tq)) (hol : ol.data = .cell (some (.ref lf)))
    (hrest : ∀ q ∈ rest, q.1 ≠ lf) (hrestd : ∀ q ∈ rest, q.1 ≠ d) (h1 : @Ne Nat f lf) (h2 : @Ne Nat cod lf) (h3 : @Ne Nat cell lf) (h4 : @Ne Nat r lf) (h5 : @Ne Nat d lf) (h6 : @Ne Nat S lf) (h7 : @Ne Nat dS lf) (h8 : @Ne Nat pb lf)
    (d1 : @Ne Nat f d) (d2 : @Ne Nat cod d) (d3 : @Ne Nat cell d) (d4 : @Ne Nat r d) (d5 : @Ne Nat S d) (d6 : @Ne Nat dS d) (d7 : @Ne Nat pb d) (hpos : 1 ≤ s.toks) (hlen : chars.length ≤ 900) (hc : Plain c) (hl : ∀ x ∈ l, Plain x.1) (hll : l.length ≤ 40) (hs1 : sep.length ≤ 1) (hs2 : sep ≠ Str.ofString "") (hs3 : inWs sep = false) (hs4 : (!inWs sep) = true)
    (hdp : dp + 3 < recursionLimit) (hun : un + 30 < cLine)
    (hret : ∀ (t' tl' : Tok) (n' : Nat) (h' : Heap) (tk' : Nat), Fr h₀ L h' m → News h₀ L h' ((lf, listOf (chars).toArray n') :: (f, lamObj lamE cell cod pm ct) :: (cod, oc) :: (cell, ol) :: (r, instObj 52 d) :: (d, lexDict w.params t1 t2 t3 t4 t5 (.int (if sep = Str.ofString "\n" then k + 1 else k) tl') (.ref S) pb) :: (S, instObj 52 dS) :: (dS, strDict w.params u1 u2 u3 u4 u5 u6 u7 q f) :: (pb, listOf #[] np) :: rest) → (2 ≤ ((c ++ cat l)).length → Okt t' tk') → Q (.str (c ++ cat l) t') { s with heap := h', toks := tk' }) :
    wpAny (model prog w) (ktrTop dp un gd cn cs L a ccd cl outer) (call (.ref 42) [.ref r]) Q E s := by
  k_with_none
  w_top off
  k_with "call builtin:list.pop" => (k_here; (with_reducible show wpAny _ _ (call (Value.builtin _) [Value.ref _, Value.int 0 _]) _ _ _); k_dflt (refine pop0 (by k_asm) (by k_asm) (by k_upd) (by assumption) ?_); intro _ _ _)
  k_with "truthy ref" => (k_here; k_dflt (refine truthyCons (by k_asm) (by k_mem) (by assumption) ?_); (try rw [if_pos rfl]))
  k_with "call builtin:len" => (k_here; (with_reducible show wpAny _ _ (call (Value.builtin "len") [Value.ref _]) _ _ _); k_dflt (refine lenLed (by k_asm) (by k_mem) (by first | assumption | (simp only [List.length_cons, List.length_nil]; omega)) ?_))
  k_with "call builtin:iter" => (k_here; (with_reducible show wpAny _ _ (call (Value.builtin "iter") [Value.ref _, Value.str _ _]) _ _ _); k_dflt (refine iter2 (by k_asm) (by k_asm) (by k_mem) ?_); intro _ _ _ _ lz9; (try k_lt lz9))
  k_with "exec For Name Name cons nil" => (k_here; k_dflt (refine owit_for ?_))
  k_with "pyIter ref" => ((with_reducible show wpAny _ _ (pyIter (Value.ref _)) (OwitAt _ _ _ _ _ _ _ _) _ _); k_here; k_dflt (refine iter_self (by exact News.get (by k_asm) (by k_mem)) ?_))
  k_with "OwitRest" => refine hold ?_
  k_with "execs cons" => ((with_reducible refine wpAny_execs_cons ?_); try dsimp only)
  k_with "execs nil" => refine wpAny_execs_nil ?_
  refine wpAny_call ?_
  k_dflt cell_enter
  k_steps
  (rename News _ _ _ ((_, itObj _ _) :: _) => NN)
  (rename Fr _ _ _ (fun y => if y = Str.ofString "fiter" then _ else _) => FF)
  replace NN := newsSub NN (fun x hx => memRot (l8 := [_, _, _, _, _, _, _, _]) hx)
  refine Hold.out ?_
  refine outer_bare rfl rfl (by assumption) FF (by assumption) NN (by assumption) (by rfl) (by rfl) (by rfl) CH hoc hvs hol (List.forall_mem_cons.mpr ⟨by k_ne, List.forall_mem_cons.mpr ⟨by k_ne, List.forall_mem_cons.mpr ⟨h8, hrest⟩⟩⟩) (List.forall_mem_cons.mpr ⟨by k_ne, List.forall_mem_cons.mpr ⟨by k_ne, List.forall_mem_cons.mpr ⟨d7, hrestd⟩⟩⟩) h1 h2 h3 h4 h5 h6 h7 d1 d2 d3 d4 d5 d6 (.head _) (.tail _ (.head _)) (by dsimp only; omega) hlen hc hl hll hs1 hs2 hs3 hs4 (by ktr_room) (by ktr_units) (by passes_own) ?_
  intro t3 tl3 n3 h3 tk3 m3 F3 N3 ht3 ho3
  k_steps
  exact hret _ _ _ _ _ (by k_asm) (newsSub (by assumption) (fun x hx => memDrop (l8 := [_, _, _, _, _, _, _, _]) hx)) (fun hl2 => (ho3 hl2).mono (by omega))
theorem tok_quote {f cell cod lf r d S dS pb q : Addr} {pm ct : Value} {oc ol : Obj} {vs : Array Value} {tq tl t1 t2 t3 t4 t5 u1 u2 u3 u4 u5 u6 u7 : Tok} {k : Int} {chars : List Value} {n np : Nat} {rest : List (Addr × Obj)} {c sep : Str} {tc tsep : Tok} {l : List (Str × Tok)}
    (B : Below A₀ base outer h₀) (F : Fr h₀ L s.heap m) (X : (Mine.hd.heap_39 w.params).In h₀) (N : News h₀ L s.heap ((lf, listOf (.str c tc :: (strValues l ++ .str sep tsep :: chars)).toArray n) :: (f, lamObj lamE cell cod pm ct) :: (cod, oc) :: (cell, ol) :: (r, instObj 52 d) :: (d, lexDict w.params t1 t2 t3 t4 t5 (.int k tl) (.ref S) pb) :: (S, instObj 52 dS) :: (dS, strDict w.params u1 u2 u3 u4 u5 u6 u7 q f) :: (pb, listOf #[] np) :: rest)) (T : Top p loose mean mg mb h₀) (hk : cs.kind = .function)
    (CH : CodeHd base 104 100) (hoc : oc.data = .fields vs) (hvs : vs[1]? = some (.str qualL tq)) (hol : ol.data = .cell (some (.ref lf)))
    (hrest : ∀ q ∈ rest, q.1 ≠ lf) (hrestd : ∀ q ∈ rest, q.1 ≠ d) (h1 : @Ne Nat f lf) (h2 : @Ne Nat cod lf) (h3 : @Ne Nat cell lf) (h4 : @Ne Nat r lf) (h5 : @Ne Nat d lf) (h6 : @Ne Nat S lf) (h7 : @Ne Nat dS lf) (h8 : @Ne Nat pb lf)
    (d1 : @Ne Nat f d) (d2 : @Ne Nat cod d) (d3 : @Ne Nat cell d) (d4 : @Ne Nat r d) (d5 : @Ne Nat S d) (d6 : @Ne Nat dS d) (d7 : @Ne Nat pb d) (hpos : 1 ≤ s.toks) (hlen : chars.length ≤ 900) (hc : c = Str.ofString "\"") (hl : ∀ x ∈ l, Plain x.1) (hll : l.length ≤ 40) (hs : sep = Str.ofString "\"")
    (hdp : dp + 3 < recursionLimit) (hun : un + 30 < cLine)
    (hret : ∀ (t' tl' : Tok) (n' : Nat) (h' : Heap) (tk' : Nat), Fr h₀ L h' m → News h₀ L h' ((lf, listOf (chars).toArray n') :: (f, lamObj lamE cell cod pm ct) :: (cod, oc) :: (cell, ol) :: (r, instObj 52 d) :: (d, lexDict w.params t1 t2 t3 t4 t5 (.int k tl') (.ref S) pb) :: (S, instObj 52 dS) :: (dS, strDict w.params u1 u2 u3 u4 u5 u6 u7 q f) :: (pb, listOf #[] np) :: rest) → (2 ≤ ((cat l)).length → Okt t' tk') → Q (.str (cat l) t') { s with heap := h', toks := tk' }) :
    wpAny (model prog w) (ktrTop dp un gd cn cs L a ccd cl outer) (call (.ref 42) [.ref r]) Q E s := by
  k_with_none
  w_top off
  k_with "call builtin:list.pop" => (k_here; (with_reducible show wpAny _ _ (call (Value.builtin _) [Value.ref _, Value.int 0 _]) _ _ _); k_dflt (refine pop0 (by k_asm) (by k_asm) (by k_upd) (by assumption) ?_); intro _ _ _)
  k_with "truthy ref" => (k_here; k_dflt (refine truthyCons (by k_asm) (by k_mem) (by assumption) ?_); (try rw [if_pos rfl]))
  k_with "call builtin:len" => (k_here; (with_reducible show wpAny _ _ (call (Value.builtin "len") [Value.ref _]) _ _ _); k_dflt (refine lenLed (by k_asm) (by k_mem) (by first | assumption | (simp only [List.length_cons, List.length_nil]; omega)) ?_))
  k_with "call builtin:iter" => (k_here; (with_reducible show wpAny _ _ (call (Value.builtin "iter") [Value.ref _, Value.str _ _]) _ _ _); k_dflt (refine iter2 (by k_asm) (by k_asm) (by k_mem) ?_); intro _ _ _ _ lz9; (try k_lt lz9))
  k_with "exec For Name Name cons nil" => (k_here; k_dflt (refine owit_for ?_))
  k_with "pyIter ref" => ((with_reducible show wpAny _ _ (pyIter (Value.ref _)) (OwitAt _ _ _ _ _ _ _ _) _ _); k_here; k_dflt (refine iter_self (by exact News.get (by k_asm) (by k_mem)) ?_))
  k_with "OwitRest" => refine hold ?_
  k_with "execs cons" => ((with_reducible refine wpAny_execs_cons ?_); try dsimp only)
  k_with "execs nil" => refine wpAny_execs_nil ?_
  refine wpAny_call ?_
  k_dflt cell_enter
  k_steps
  (rename News _ _ _ ((_, itObj _ _) :: _) => NN)
  (rename Fr _ _ _ (fun y => if y = Str.ofString "fiter" then _ else _) => FF)
  replace NN := newsSub NN (fun x hx => memRot (l8 := [_, _, _, _, _, _, _, _]) hx)
  refine Hold.out ?_
  refine outer_quote rfl rfl (by assumption) FF (by assumption) NN (by assumption) (by rfl) (by rfl) (by rfl) CH hoc hvs hol (List.forall_mem_cons.mpr ⟨by k_ne, List.forall_mem_cons.mpr ⟨by k_ne, List.forall_mem_cons.mpr ⟨h8, hrest⟩⟩⟩) (List.forall_mem_cons.mpr ⟨by k_ne, List.forall_mem_cons.mpr ⟨by k_ne, List.forall_mem_cons.mpr ⟨d7, hrestd⟩⟩⟩) h1 h2 h3 h4 h5 h6 h7 d1 d2 d3 d4 d5 d6 (.head _) (.tail _ (.head _)) (by dsimp only; omega) hlen hc hl hll hs (by ktr_room) (by ktr_units) (by passes_own) ?_
  intro t3 tl3 n3 h3 tk3 m3 F3 N3 ht3 ho3
  k_steps
  exact hret _ _ _ _ _ (by k_asm) (newsSub (by assumption) (fun x hx => memDrop (l8 := [_, _, _, _, _, _, _, _]) hx)) (fun hl2 => (ho3 hl2).mono (by omega))
theorem tok_back {f cell cod lf r d S dS pb q : Addr} {pm ct : Value} {oc ol : Obj} {vs : Array Value} {tq tl t1 t2 t3 t4 t5 u1 u2 u3 u4 u5 u6 u7 : Tok} {k : Int} {chars : List Value} {n np : Nat} {rest : List (Addr × Obj)} {e c sep : Str} {te tc tsep : Tok} {l : List (Str × Tok)}
    (B : Below A₀ base outer h₀) (F : Fr h₀ L s.heap m) (X : (Mine.hd.heap_39 w.params).In h₀) (N : News h₀ L s.heap ((lf, listOf (.str e te :: .str c tc :: (strValues l ++ .str sep tsep :: chars)).toArray n) :: (f, lamObj lamE cell cod pm ct) :: (cod, oc) :: (cell, ol) :: (r, instObj 52 d) :: (d, lexDict w.params t1 t2 t3 t4 t5 (.int k tl) (.ref S) pb) :: (S, instObj 52 dS) :: (dS, strDict w.params u1 u2 u3 u4 u5 u6 u7 q f) :: (pb, listOf #[] np) :: rest)) (T : Top p loose mean mg mb h₀) (hk : cs.kind = .function)
    (CH : CodeHd base 104 100) (hoc : oc.data = .fields vs) (hvs : vs[1]? = some (.str qualL tq)) (hol : ol.data = .cell (some (.ref lf)))
    (hrest : ∀ q ∈ rest, q.1 ≠ lf) (hrestd : ∀ q ∈ rest, q.1 ≠ d) (h1 : @Ne Nat f lf) (h2 : @Ne Nat cod lf) (h3 : @Ne Nat cell lf) (h4 : @Ne Nat r lf) (h5 : @Ne Nat d lf) (h6 : @Ne Nat S lf) (h7 : @Ne Nat dS lf) (h8 : @Ne Nat pb lf)
    (d1 : @Ne Nat f d) (d2 : @Ne Nat cod d) (d3 : @Ne Nat cell d) (d4 : @Ne Nat r d) (d5 : @Ne Nat S d) (d6 : @Ne Nat dS d) (d7 : @Ne Nat pb d) (hpos : 1 ≤ s.toks) (hlen : chars.length ≤ 900) (he : e = Str.ofString "\\") (hc : Plain c) (hl : ∀ x ∈ l, Plain x.1) (hll : l.length ≤ 40) (hs1 : sep.length ≤ 1) (hs2 : sep ≠ Str.ofString "") (hs3 : inWs sep = false) (hs4 : (!inWs sep) = true)
    (hdp : dp + 3 < recursionLimit) (hun : un + 30 < cLine)
    (hret : ∀ (t' tl' : Tok) (n' : Nat) (h' : Heap) (tk' : Nat), Fr h₀ L h' m → News h₀ L h' ((lf, listOf (chars).toArray n') :: (f, lamObj lamE cell cod pm ct) :: (cod, oc) :: (cell, ol) :: (r, instObj 52 d) :: (d, lexDict w.params t1 t2 t3 t4 t5 (.int (if sep = Str.ofString "\n" then k + 1 else k) tl') (.ref S) pb) :: (S, instObj 52 dS) :: (dS, strDict w.params u1 u2 u3 u4 u5 u6 u7 q f) :: (pb, listOf #[] np) :: rest) → (2 ≤ ((c ++ cat l)).length → Okt t' tk') → Q (.str (c ++ cat l) t') { s with heap := h', toks := tk' }) :
    wpAny (model prog w) (ktrTop dp un gd cn cs L a ccd cl outer) (call (.ref 42) [.ref r]) Q E s := by
  k_with_none
  w_top off
  k_with "call builtin:list.pop" => (k_here; (with_reducible show wpAny _ _ (call (Value.builtin _) [Value.ref _, Value.int 0 _]) _ _ _); k_dflt (refine pop0 (by k_asm) (by k_asm) (by k_upd) (by assumption) ?_); intro _ _ _)
  k_with "truthy ref" => (k_here; k_dflt (refine truthyCons (by k_asm) (by k_mem) (by assumption) ?_); (try rw [if_pos rfl]))
  k_with "call builtin:len" => (k_here; (with_reducible show wpAny _ _ (call (Value.builtin "len") [Value.ref _]) _ _ _); k_dflt (refine lenLed (by k_asm) (by k_mem) (by first | assumption | (simp only [List.length_cons, List.length_nil]; omega)) ?_))
  k_with "call builtin:iter" => (k_here; (with_reducible show wpAny _ _ (call (Value.builtin "iter") [Value.ref _, Value.str _ _]) _ _ _); k_dflt (refine iter2 (by k_asm) (by k_asm) (by k_mem) ?_); intro _ _ _ _ lz9; (try k_lt lz9))
  k_with "exec For Name Name cons nil" => (k_here; k_dflt (refine owit_for ?_))
  k_with "pyIter ref" => ((with_reducible show wpAny _ _ (pyIter (Value.ref _)) (OwitAt _ _ _ _ _ _ _ _) _ _); k_here; k_dflt (refine iter_self (by exact News.get (by k_asm) (by k_mem)) ?_))
  k_with "OwitRest" => refine hold ?_
  k_with "execs cons" => ((with_reducible refine wpAny_execs_cons ?_); try dsimp only)
  k_with "execs nil" => refine wpAny_execs_nil ?_
  refine wpAny_call ?_
  k_dflt cell_enter
  k_steps
  (rename News _ _ _ ((_, itObj _ _) :: _) => NN)
  (rename Fr _ _ _ (fun y => if y = Str.ofString "fiter" then _ else _) => FF)
  replace NN := newsSub NN (fun x hx => memRot (l8 := [_, _, _, _, _, _, _, _]) hx)
  refine Hold.out ?_
  refine outer_back rfl rfl (by assumption) FF (by assumption) NN (by assumption) (by rfl) (by rfl) (by rfl) CH hoc hvs hol (List.forall_mem_cons.mpr ⟨by k_ne, List.forall_mem_cons.mpr ⟨by k_ne, List.forall_mem_cons.mpr ⟨h8, hrest⟩⟩⟩) (List.forall_mem_cons.mpr ⟨by k_ne, List.forall_mem_cons.mpr ⟨by k_ne, List.forall_mem_cons.mpr ⟨d7, hrestd⟩⟩⟩) h1 h2 h3 h4 h5 h6 h7 d1 d2 d3 d4 d5 d6 (.head _) (.tail _ (.head _)) (by dsimp only; omega) hlen he hc hl hll hs1 hs2 hs3 hs4 (by ktr_room) (by ktr_units) (by passes_own) ?_
  intro t3 tl3 n3 h3 tk3 m3 F3 N3 ht3 ho3
  k_steps
  exact hret _ _ _ _ _ (by k_asm) (newsSub (by assumption) (fun x hx => memDrop (l8 := [_, _, _, _, _, _, _, _]) hx)) (fun hl2 => (ho3 hl2).mono (by omega))
theorem tok_wbare {f cell cod lf r d S dS pb q : Addr} {pm ct : Value} {oc ol : Obj} {vs : Array Value} {tq tl t1 t2 t3 t4 t5 u1 u2 u3 u4 u5 u6 u7 : Tok} {k : Int} {chars : List Value} {n np : Nat} {rest : List (Addr × Obj)} {e0 c sep : Str} {te0 tc tsep : Tok} {l : List (Str × Tok)}
    (B : Below A₀ base outer h₀) (F : Fr h₀ L s.heap m) (X : (Mine.hd.heap_39 w.params).In h₀) (N : News h₀ L s.heap ((lf, listOf (.str e0 te0 :: .str c tc :: (strValues l ++ .str sep tsep :: chars)).toArray n) :: (f, lamObj lamE cell cod pm ct) :: (cod, oc) :: (cell, ol) :: (r, instObj 52 d) :: (d, lexDict w.params t1 t2 t3 t4 t5 (.int k tl) (.ref S) pb) :: (S, instObj 52 dS) :: (dS, strDict w.params u1 u2 u3 u4 u5 u6 u7 q f) :: (pb, listOf #[] np) :: rest)) (T : Top p loose mean mg mb h₀) (hk : cs.kind = .function)
    (CH : CodeHd base 104 100) (hoc : oc.data = .fields vs) (hvs : vs[1]? = some (.str qualL tq)) (hol : ol.data = .cell (some (.ref lf)))
    (hrest : ∀ q ∈ rest, q.1 ≠ lf) (hrestd : ∀ q ∈ rest, q.1 ≠ d) (h1 : @Ne Nat f lf) (h2 : @Ne Nat cod lf) (h3 : @Ne Nat cell lf) (h4 : @Ne Nat r lf) (h5 : @Ne Nat d lf) (h6 : @Ne Nat S lf) (h7 : @Ne Nat dS lf) (h8 : @Ne Nat pb lf)
    (d1 : @Ne Nat f d) (d2 : @Ne Nat cod d) (d3 : @Ne Nat cell d) (d4 : @Ne Nat r d) (d5 : @Ne Nat S d) (d6 : @Ne Nat dS d) (d7 : @Ne Nat pb d) (hpos : 1 ≤ s.toks) (hlen : chars.length ≤ 900) (hw1 : e0.length ≤ 1) (hw2 : e0 ≠ Str.ofString "") (hw3 : inWs e0 = false) (hw4 : (!inWs e0) = true) (hw5 : ¬ e0 = Str.ofString "\n") (hc : Plain c) (hl : ∀ x ∈ l, Plain x.1) (hll : l.length ≤ 40) (hlen8 : chars.length ≤ 800) (hs1 : sep.length ≤ 1) (hs2 : sep ≠ Str.ofString "") (hs3 : inWs sep = false) (hs4 : (!inWs sep) = true)
    (hdp : dp + 3 < recursionLimit) (hun : un + 30 < cLine)
    (hret : ∀ (t' tl' : Tok) (n' : Nat) (h' : Heap) (tk' : Nat), Fr h₀ L h' m → News h₀ L h' ((lf, listOf (chars).toArray n') :: (f, lamObj lamE cell cod pm ct) :: (cod, oc) :: (cell, ol) :: (r, instObj 52 d) :: (d, lexDict w.params t1 t2 t3 t4 t5 (.int (if sep = Str.ofString "\n" then k + 1 else k) tl') (.ref S) pb) :: (S, instObj 52 dS) :: (dS, strDict w.params u1 u2 u3 u4 u5 u6 u7 q f) :: (pb, listOf #[] np) :: rest) → (2 ≤ ((c ++ cat l)).length → Okt t' tk') → Q (.str (c ++ cat l) t') { s with heap := h', toks := tk' }) :
    wpAny (model prog w) (ktrTop dp un gd cn cs L a ccd cl outer) (call (.ref 42) [.ref r]) Q E s := by
  k_with_none
  w_top off
  k_with "call builtin:list.pop" => (k_here; (with_reducible show wpAny _ _ (call (Value.builtin _) [Value.ref _, Value.int 0 _]) _ _ _); k_dflt (refine pop0 (by k_asm) (by k_asm) (by k_upd) (by assumption) ?_); intro _ _ _)
  k_with "truthy ref" => (k_here; k_dflt (refine truthyCons (by k_asm) (by k_mem) (by assumption) ?_); (try rw [if_pos rfl]))
  k_with "call builtin:len" => (k_here; (with_reducible show wpAny _ _ (call (Value.builtin "len") [Value.ref _]) _ _ _); k_dflt (refine lenLed (by k_asm) (by k_mem) (by first | assumption | (simp only [List.length_cons, List.length_nil]; omega)) ?_))
  k_with "call builtin:iter" => (k_here; (with_reducible show wpAny _ _ (call (Value.builtin "iter") [Value.ref _, Value.str _ _]) _ _ _); k_dflt (refine iter2 (by k_asm) (by k_asm) (by k_mem) ?_); intro _ _ _ _ lz9; (try k_lt lz9))
  k_with "exec For Name Name cons nil" => (k_here; k_dflt (refine owit_for ?_))
  k_with "pyIter ref" => ((with_reducible show wpAny _ _ (pyIter (Value.ref _)) (OwitAt _ _ _ _ _ _ _ _) _ _); k_here; k_dflt (refine iter_self (by exact News.get (by k_asm) (by k_mem)) ?_))
  k_with "OwitRest" => refine hold ?_
  k_with "execs cons" => ((with_reducible refine wpAny_execs_cons ?_); try dsimp only)
  k_with "execs nil" => refine wpAny_execs_nil ?_
  refine wpAny_call ?_
  k_dflt cell_enter
  k_steps
  (rename News _ _ _ ((_, itObj _ _) :: _) => NN)
  (rename Fr _ _ _ (fun y => if y = Str.ofString "fiter" then _ else _) => FF)
  replace NN := newsSub NN (fun x hx => memRot (l8 := [_, _, _, _, _, _, _, _]) hx)
  refine Hold.out ?_
  refine outer_ws (chars := .str c tc :: (strValues l ++ .str sep tsep :: chars)) rfl rfl (by assumption) FF (by assumption) NN (by assumption) (by rfl) (by rfl) (by rfl) CH hoc hvs hol (List.forall_mem_cons.mpr ⟨by k_ne, List.forall_mem_cons.mpr ⟨by k_ne, List.forall_mem_cons.mpr ⟨h8, hrest⟩⟩⟩) (List.forall_mem_cons.mpr ⟨by k_ne, List.forall_mem_cons.mpr ⟨by k_ne, List.forall_mem_cons.mpr ⟨d7, hrestd⟩⟩⟩) h1 h2 h3 h4 h5 h6 h7 d1 d2 d3 d4 d5 d6 (.head _) (.tail _ (.head _)) (by dsimp only; omega) ?wlen hw1 hw2 hw3 hw4 hw5 (by ktr_room) (by ktr_units) (by passes_own) ?_
  case wlen => simp only [strValues, List.length_append, List.length_map, List.length_cons]; omega
  intro tl2 n2 hh2 tk2 m2 F2 ms2 mt2 mf2 N2 hk2
  refine outer_bare (fu := 62) rfl rfl (by assumption) F2 (by assumption) N2 (by assumption) ms2 mt2 mf2 CH hoc hvs hol (List.forall_mem_cons.mpr ⟨by k_ne, List.forall_mem_cons.mpr ⟨by k_ne, List.forall_mem_cons.mpr ⟨h8, hrest⟩⟩⟩) (List.forall_mem_cons.mpr ⟨by k_ne, List.forall_mem_cons.mpr ⟨by k_ne, List.forall_mem_cons.mpr ⟨d7, hrestd⟩⟩⟩) h1 h2 h3 h4 h5 h6 h7 d1 d2 d3 d4 d5 d6 (.head _) (.tail _ (.head _)) hk2 hlen hc hl hll hs1 hs2 hs3 hs4 (by ktr_room) (by ktr_units) (by passes_own) ?_
  intro t3 tl3 n3 h3 tk3 m3 F3 N3 ht3 ho3
  k_steps
  exact hret _ _ _ _ _ (by k_asm) (newsSub (by assumption) (fun x hx => memDrop (l8 := [_, _, _, _, _, _, _, _]) hx)) (fun hl2 => (ho3 hl2).mono (by omega))
theorem tok_wback {f cell cod lf r d S dS pb q : Addr} {pm ct : Value} {oc ol : Obj} {vs : Array Value} {tq tl t1 t2 t3 t4 t5 u1 u2 u3 u4 u5 u6 u7 : Tok} {k : Int} {chars : List Value} {n np : Nat} {rest : List (Addr × Obj)} {e0 e c sep : Str} {te0 te tc tsep : Tok} {l : List (Str × Tok)}
    (B : Below A₀ base outer h₀) (F : Fr h₀ L s.heap m) (X : (Mine.hd.heap_39 w.params).In h₀) (N : News h₀ L s.heap ((lf, listOf (.str e0 te0 :: .str e te :: .str c tc :: (strValues l ++ .str sep tsep :: chars)).toArray n) :: (f, lamObj lamE cell cod pm ct) :: (cod, oc) :: (cell, ol) :: (r, instObj 52 d) :: (d, lexDict w.params t1 t2 t3 t4 t5 (.int k tl) (.ref S) pb) :: (S, instObj 52 dS) :: (dS, strDict w.params u1 u2 u3 u4 u5 u6 u7 q f) :: (pb, listOf #[] np) :: rest)) (T : Top p loose mean mg mb h₀) (hk : cs.kind = .function)
    (CH : CodeHd base 104 100) (hoc : oc.data = .fields vs) (hvs : vs[1]? = some (.str qualL tq)) (hol : ol.data = .cell (some (.ref lf)))
    (hrest : ∀ q ∈ rest, q.1 ≠ lf) (hrestd : ∀ q ∈ rest, q.1 ≠ d) (h1 : @Ne Nat f lf) (h2 : @Ne Nat cod lf) (h3 : @Ne Nat cell lf) (h4 : @Ne Nat r lf) (h5 : @Ne Nat d lf) (h6 : @Ne Nat S lf) (h7 : @Ne Nat dS lf) (h8 : @Ne Nat pb lf)
    (d1 : @Ne Nat f d) (d2 : @Ne Nat cod d) (d3 : @Ne Nat cell d) (d4 : @Ne Nat r d) (d5 : @Ne Nat S d) (d6 : @Ne Nat dS d) (d7 : @Ne Nat pb d) (hpos : 1 ≤ s.toks) (hlen : chars.length ≤ 900) (hw1 : e0.length ≤ 1) (hw2 : e0 ≠ Str.ofString "") (hw3 : inWs e0 = false) (hw4 : (!inWs e0) = true) (hw5 : ¬ e0 = Str.ofString "\n") (he : e = Str.ofString "\\") (hc : Plain c) (hl : ∀ x ∈ l, Plain x.1) (hll : l.length ≤ 40) (hlen8 : chars.length ≤ 800) (hs1 : sep.length ≤ 1) (hs2 : sep ≠ Str.ofString "") (hs3 : inWs sep = false) (hs4 : (!inWs sep) = true)
    (hdp : dp + 3 < recursionLimit) (hun : un + 30 < cLine)
    (hret : ∀ (t' tl' : Tok) (n' : Nat) (h' : Heap) (tk' : Nat), Fr h₀ L h' m → News h₀ L h' ((lf, listOf (chars).toArray n') :: (f, lamObj lamE cell cod pm ct) :: (cod, oc) :: (cell, ol) :: (r, instObj 52 d) :: (d, lexDict w.params t1 t2 t3 t4 t5 (.int (if sep = Str.ofString "\n" then k + 1 else k) tl') (.ref S) pb) :: (S, instObj 52 dS) :: (dS, strDict w.params u1 u2 u3 u4 u5 u6 u7 q f) :: (pb, listOf #[] np) :: rest) → (2 ≤ ((c ++ cat l)).length → Okt t' tk') → Q (.str (c ++ cat l) t') { s with heap := h', toks := tk' }) :
    wpAny (model prog w) (ktrTop dp un gd cn cs L a ccd cl outer) (call (.ref 42) [.ref r]) Q E s := by
  k_with_none
  w_top off
  k_with "call builtin:list.pop" => (k_here; (with_reducible show wpAny _ _ (call (Value.builtin _) [Value.ref _, Value.int 0 _]) _ _ _); k_dflt (refine pop0 (by k_asm) (by k_asm) (by k_upd) (by assumption) ?_); intro _ _ _)
  k_with "truthy ref" => (k_here; k_dflt (refine truthyCons (by k_asm) (by k_mem) (by assumption) ?_); (try rw [if_pos rfl]))
  k_with "call builtin:len" => (k_here; (with_reducible show wpAny _ _ (call (Value.builtin "len") [Value.ref _]) _ _ _); k_dflt (refine lenLed (by k_asm) (by k_mem) (by first | assumption | (simp only [List.length_cons, List.length_nil]; omega)) ?_))
  k_with "call builtin:iter" => (k_here; (with_reducible show wpAny _ _ (call (Value.builtin "iter") [Value.ref _, Value.str _ _]) _ _ _); k_dflt (refine iter2 (by k_asm) (by k_asm) (by k_mem) ?_); intro _ _ _ _ lz9; (try k_lt lz9))
  k_with "exec For Name Name cons nil" => (k_here; k_dflt (refine owit_for ?_))
  k_with "pyIter ref" => ((with_reducible show wpAny _ _ (pyIter (Value.ref _)) (OwitAt _ _ _ _ _ _ _ _) _ _); k_here; k_dflt (refine iter_self (by exact News.get (by k_asm) (by k_mem)) ?_))
  k_with "OwitRest" => refine hold ?_
  k_with "execs cons" => ((with_reducible refine wpAny_execs_cons ?_); try dsimp only)
  k_with "execs nil" => refine wpAny_execs_nil ?_
  refine wpAny_call ?_
  k_dflt cell_enter
  k_steps
  (rename News _ _ _ ((_, itObj _ _) :: _) => NN)
  (rename Fr _ _ _ (fun y => if y = Str.ofString "fiter" then _ else _) => FF)
  replace NN := newsSub NN (fun x hx => memRot (l8 := [_, _, _, _, _, _, _, _]) hx)
  refine Hold.out ?_
  refine outer_ws (chars := .str e te :: .str c tc :: (strValues l ++ .str sep tsep :: chars)) rfl rfl (by assumption) FF (by assumption) NN (by assumption) (by rfl) (by rfl) (by rfl) CH hoc hvs hol (List.forall_mem_cons.mpr ⟨by k_ne, List.forall_mem_cons.mpr ⟨by k_ne, List.forall_mem_cons.mpr ⟨h8, hrest⟩⟩⟩) (List.forall_mem_cons.mpr ⟨by k_ne, List.forall_mem_cons.mpr ⟨by k_ne, List.forall_mem_cons.mpr ⟨d7, hrestd⟩⟩⟩) h1 h2 h3 h4 h5 h6 h7 d1 d2 d3 d4 d5 d6 (.head _) (.tail _ (.head _)) (by dsimp only; omega) ?wlen hw1 hw2 hw3 hw4 hw5 (by ktr_room) (by ktr_units) (by passes_own) ?_
  case wlen => simp only [strValues, List.length_append, List.length_map, List.length_cons]; omega
  intro tl2 n2 hh2 tk2 m2 F2 ms2 mt2 mf2 N2 hk2
  refine outer_back (fu := 62) rfl rfl (by assumption) F2 (by assumption) N2 (by assumption) ms2 mt2 mf2 CH hoc hvs hol (List.forall_mem_cons.mpr ⟨by k_ne, List.forall_mem_cons.mpr ⟨by k_ne, List.forall_mem_cons.mpr ⟨h8, hrest⟩⟩⟩) (List.forall_mem_cons.mpr ⟨by k_ne, List.forall_mem_cons.mpr ⟨by k_ne, List.forall_mem_cons.mpr ⟨d7, hrestd⟩⟩⟩) h1 h2 h3 h4 h5 h6 h7 d1 d2 d3 d4 d5 d6 (.head _) (.tail _ (.head _)) hk2 hlen he hc hl hll hs1 hs2 hs3 hs4 (by ktr_room) (by ktr_units) (by passes_own) ?_
  intro t3 tl3 n3 h3 tk3 m3 F3 N3 ht3 ho3
  k_steps
  exact hret _ _ _ _ _ (by k_asm) (newsSub (by assumption) (fun x hx => memDrop (l8 := [_, _, _, _, _, _, _, _]) hx)) (fun hl2 => (ho3 hl2).mono (by omega))
theorem tok_end {f cell cod lf r d S dS pb q : Addr} {pm ct : Value} {oc ol : Obj} {vs : Array Value} {tq tl t1 t2 t3 t4 t5 u1 u2 u3 u4 u5 u6 u7 : Tok} {k : Int} {chars : List Value} {n np : Nat} {rest : List (Addr × Obj)} 
    (B : Below A₀ base outer h₀) (F : Fr h₀ L s.heap m) (X : (Mine.hd.heap_39 w.params).In h₀) (N : News h₀ L s.heap ((lf, listOf #[] n) :: (f, lamObj lamE cell cod pm ct) :: (cod, oc) :: (cell, ol) :: (r, instObj 52 d) :: (d, lexDict w.params t1 t2 t3 t4 t5 (.int k tl) (.ref S) pb) :: (S, instObj 52 dS) :: (dS, strDict w.params u1 u2 u3 u4 u5 u6 u7 q f) :: (pb, listOf #[] np) :: rest)) (T : Top p loose mean mg mb h₀) (hk : cs.kind = .function)
    (CH : CodeHd base 104 100) (hoc : oc.data = .fields vs) (hvs : vs[1]? = some (.str qualL tq)) (hol : ol.data = .cell (some (.ref lf)))
    (hrest : ∀ q ∈ rest, q.1 ≠ lf) (hrestd : ∀ q ∈ rest, q.1 ≠ d) (h1 : @Ne Nat f lf) (h2 : @Ne Nat cod lf) (h3 : @Ne Nat cell lf) (h4 : @Ne Nat r lf) (h5 : @Ne Nat d lf) (h6 : @Ne Nat S lf) (h7 : @Ne Nat dS lf) (h8 : @Ne Nat pb lf)
    (d1 : @Ne Nat f d) (d2 : @Ne Nat cod d) (d3 : @Ne Nat cell d) (d4 : @Ne Nat r d) (d5 : @Ne Nat S d) (d6 : @Ne Nat dS d) (d7 : @Ne Nat pb d) (hpos : 1 ≤ s.toks) (hlen : chars.length ≤ 900) 
    (hdp : dp + 3 < recursionLimit) (hun : un + 30 < cLine)
    (hret : ∀ (t' tl' : Tok) (n' : Nat) (h' : Heap) (tk' : Nat), Fr h₀ L h' m → News h₀ L h' ((lf, listOf #[] n') :: (f, lamObj lamE cell cod pm ct) :: (cod, oc) :: (cell, ol) :: (r, instObj 52 d) :: (d, lexDict w.params t1 t2 t3 t4 t5 (.int k tl') (.ref S) pb) :: (S, instObj 52 dS) :: (dS, strDict w.params u1 u2 u3 u4 u5 u6 u7 q f) :: (pb, listOf #[] np) :: rest) → (2 ≤ ((Str.ofString "")).length → Okt t' tk') → Q (.str (Str.ofString "") t') { s with heap := h', toks := tk' }) :
    wpAny (model prog w) (ktrTop dp un gd cn cs L a ccd cl outer) (call (.ref 42) [.ref r]) Q E s := by
  k_with_none
  w_top off
  k_with "call builtin:list.pop" => (k_here; (with_reducible show wpAny _ _ (call (Value.builtin _) [Value.ref _, Value.int 0 _]) _ _ _); k_dflt (refine pop0 (by k_asm) (by k_asm) (by k_upd) (by assumption) ?_); intro _ _ _)
  k_with "truthy ref" => (k_here; k_dflt (refine truthyCons (by k_asm) (by k_mem) (by assumption) ?_); (try rw [if_pos rfl]))
  k_with "call builtin:len" => (k_here; (with_reducible show wpAny _ _ (call (Value.builtin "len") [Value.ref _]) _ _ _); k_dflt (refine lenLed (by k_asm) (by k_mem) (by first | assumption | (simp only [List.length_cons, List.length_nil]; omega)) ?_))
  k_with "call builtin:iter" => (k_here; (with_reducible show wpAny _ _ (call (Value.builtin "iter") [Value.ref _, Value.str _ _]) _ _ _); k_dflt (refine iter2 (by k_asm) (by k_asm) (by k_mem) ?_); intro _ _ _ _ lz9; (try k_lt lz9))
  k_with "exec For Name Name cons nil" => (k_here; k_dflt (refine owit_for ?_))
  k_with "pyIter ref" => ((with_reducible show wpAny _ _ (pyIter (Value.ref _)) (OwitAt _ _ _ _ _ _ _ _) _ _); k_here; k_dflt (refine iter_self (by exact News.get (by k_asm) (by k_mem)) ?_))
  k_with "OwitRest" => refine hold ?_
  k_with "execs cons" => ((with_reducible refine wpAny_execs_cons ?_); try dsimp only)
  k_with "execs nil" => refine wpAny_execs_nil ?_
  refine wpAny_call ?_
  k_dflt cell_enter
  k_steps
  (rename News _ _ _ ((_, itObj _ _) :: _) => NN)
  (rename Fr _ _ _ (fun y => if y = Str.ofString "fiter" then _ else _) => FF)
  replace NN := newsSub NN (fun x hx => memRot (l8 := [_, _, _, _, _, _, _, _]) hx)
  refine Hold.out ?_
  refine outer_end (chars := []) rfl rfl (by assumption) FF (by assumption) NN (by assumption) (by rfl) (by rfl) (by rfl) CH hoc hvs hol (List.forall_mem_cons.mpr ⟨by k_ne, List.forall_mem_cons.mpr ⟨by k_ne, List.forall_mem_cons.mpr ⟨h8, hrest⟩⟩⟩) (List.forall_mem_cons.mpr ⟨by k_ne, List.forall_mem_cons.mpr ⟨by k_ne, List.forall_mem_cons.mpr ⟨d7, hrestd⟩⟩⟩) h1 h2 h3 h4 h5 h6 h7 d1 d2 d3 d4 d5 d6 (.head _) (.tail _ (.head _)) (by dsimp only; omega) (by simp) (by ktr_room) (by ktr_units) (by passes_own) ?_
  intro h h' tk' m' F' N' e'
  (rename _ ∧ _ ∧ _ ∧ _ ∧ _ ∧ _ ∧ _ ∧ _ ∧ _ ∧ _ ∧ AllLt _ _ => l9)
  obtain ⟨F5, N5⟩ := endHeap (l8 := [_, _, _, _, _, _, _, _]) F' N' e' (by
    obtain ⟨z0, z1, z2, z3, z4, z5, z6, z7, z8, z9, zr⟩ := l9
    iterate 9 (refine List.forall_mem_cons.mpr ⟨by k_ne, ?_⟩)
    exact allLt_mem zr)
  dsimp only
  k_steps
  exact hret _ _ _ _ _ (by k_asm) (by assumption) (fun hl2 => absurd hl2 (by decide))
end
/-! part PgJ -/
def Keep (ds : List Addr) (news news' : List (Addr × Obj)) : Prop := ∀ p ∈ news, p.1 ∉ ds → p ∈ news'
theorem Keep.trans {ds ds' : List Addr} {a b c : List (Addr × Obj)} (h : Keep ds a b) (h' : Keep ds' b c) : Keep (ds ++ ds') a c := fun p hp hn =>
  h' p (h p hp fun q => hn (List.mem_append_left _ q)) fun q => hn (List.mem_append_right _ q)
theorem Keep.wide {ds ds' : List Addr} {a b : List (Addr × Obj)} (h : Keep ds a b) (hs : ∀ x ∈ ds, x ∈ ds') : Keep ds' a b := fun p hp hn => h p hp fun q => hn (hs _ q)
theorem apart' {h₀ h : Heap} {L a b : Addr} {o o' : Obj} {news : List (Addr × Obj)} (N : News h₀ L h news) (ha : (a, o) ∈ news) (hb : (b, o') ∈ news) (hne : o ≠ o') : a ≠ b := fun e => by
  have h1 := (N _ ha).1
  have h2 := (N _ hb).1
  dsimp only at h1 h2
  rw [e, h2] at h1
  exact hne (Option.some.inj h1).symm
theorem neData {o o' : Obj} {d d' : Data} (h : o.data = d) (h' : o'.data = d') (hne : d ≠ d') : o ≠ o' := fun e => hne (by rw [← h, ← h', e])
theorem lamCls {cell cod : Addr} {pm ct : Value} : (lamObj lamE cell cod pm ct).cls = .type "function" := by rw [lamObj_eq (e := lamE) rfl]
/-- the stream's fixed objects -/
structure Sta where
  (f cell cod lf S dS q : Addr)
  (pm ct : Value)
  (oc ol : Obj)
  (vs : Array Value)
  (tq u1 u2 u3 u4 u5 u6 u7 : Tok)
structure StaIn (P : Params) (σ : Sta) (news : List (Addr × Obj)) : Prop where
  hf : (σ.f, lamObj lamE σ.cell σ.cod σ.pm σ.ct) ∈ news
  hcod : (σ.cod, σ.oc) ∈ news
  hcell : (σ.cell, σ.ol) ∈ news
  hS : (σ.S, instObj 52 σ.dS) ∈ news
  hdS : (σ.dS, strDict P σ.u1 σ.u2 σ.u3 σ.u4 σ.u5 σ.u6 σ.u7 σ.q σ.f) ∈ news
  oc : σ.oc.data = .fields σ.vs
  vs : σ.vs[1]? = some (.str qualL σ.tq)
  ol : σ.ol.data = .cell (some (.ref σ.lf))
/-- a lexer's fixed addresses -/
structure Rm where
  (r d pb : Addr)
  (t1 t2 t3 t4 t5 : Tok)
structure RmIn (P : Params) (S : Addr) (ρ : Rm) (k : Int) (ws : List Value) (news : List (Addr × Obj)) : Prop where
  hr : (ρ.r, instObj 52 ρ.d) ∈ news
  hd : ∃ tl, (ρ.d, lexDict P ρ.t1 ρ.t2 ρ.t3 ρ.t4 ρ.t5 (.int k tl) (.ref S) ρ.pb) ∈ news
  hpb : ∃ np, (ρ.pb, listOf ws.toArray np) ∈ news
def LeftIn (lf : Addr) (chars : List Value) (news : List (Addr × Obj)) : Prop := ∃ n, (lf, listOf chars.toArray n) ∈ news
theorem RmIn.keep {P : Params} {S : Addr} {ρ : Rm} {k : Int} {ws : List Value} {ds : List Addr} {news news' : List (Addr × Obj)} (h : RmIn P S ρ k ws news) (hk : Keep ds news news') (h1 : ρ.r ∉ ds) (h2 : ρ.d ∉ ds) (h3 : ρ.pb ∉ ds) : RmIn P S ρ k ws news' :=
  ⟨hk _ h.hr h1, h.hd.elim fun tl e => ⟨tl, hk _ e h2⟩, h.hpb.elim fun np e => ⟨np, hk _ e h3⟩⟩
section
variable {prog : Program} {w : World} {p : Program} {loose : List Str} {mean : ExcName → Option Value} {mg mb : Str → Option Value}
    {dp un : Nat} {gd : Option (List Code)} {cn : Str} {cs : Scope} {a : Addr} {ccd : Value} {cl : List (Str × Addr)} {outer : List Env} {A₀ : Around} {base h₀ : Heap} {L : Addr} {m : Str → Option Value} {s : Shared} {Q E : Value → Shared → Prop} {news : List (Addr × Obj)}
theorem tok_bare_k {σ : Sta} {ρ : Rm} {k : Int} {chars : List Value} {c sep : Str} {tc tsep : Tok} {l : List (Str × Tok)}
    (B : Below A₀ base outer h₀) (F : Fr h₀ L s.heap m) (X : (Mine.hd.heap_39 w.params).In h₀) (N : News h₀ L s.heap news) (T : Top p loose mean mg mb h₀) (hk : cs.kind = .function)
    (CH : CodeHd base 104 100) (St : StaIn w.params σ news) (Rr : RmIn w.params σ.S ρ k [] news) (Lf : LeftIn σ.lf (.str c tc :: (strValues l ++ .str sep tsep :: chars)) news) (hpl : ρ.pb ≠ σ.lf) (hpos : 1 ≤ s.toks) (hlen : chars.length ≤ 900) (hc : Plain c) (hl : ∀ x ∈ l, Plain x.1) (hll : l.length ≤ 40) (hs1 : sep.length ≤ 1) (hs2 : sep ≠ Str.ofString "") (hs3 : inWs sep = false) (hs4 : (!inWs sep) = true)
    (hdp : dp + 3 < recursionLimit) (hun : un + 30 < cLine)
    (hret : ∀ (t' : Tok) (h' : Heap) (tk' : Nat) (news' : List (Addr × Obj)), Fr h₀ L h' m → News h₀ L h' news' → Keep [σ.lf, ρ.d] news news' → StaIn w.params σ news' → RmIn w.params σ.S ρ (if sep = Str.ofString "\n" then k + 1 else k) [] news' → LeftIn σ.lf (chars) news' → (2 ≤ ((c ++ cat l)).length → Okt t' tk') → Q (.str (c ++ cat l) t') { s with heap := h', toks := tk' }) :
    wpAny (model prog w) (ktrTop dp un gd cn cs L a ccd cl outer) (call (.ref 42) [.ref ρ.r]) Q E s := by
  obtain ⟨f, cell, cod, lf, S, dS, q, pm, ct, oc, ol, vs, tq, u1, u2, u3, u4, u5, u6, u7⟩ := σ
  obtain ⟨r, d, pb, t1, t2, t3, t4, t5⟩ := ρ
  obtain ⟨mf, mcod, mcell, mS, mdS, hoc, hvs, hol⟩ := St
  obtain ⟨mr, ⟨tl, md⟩, ⟨np, mpb⟩⟩ := Rr
  obtain ⟨n, mlf⟩ := Lf
  dsimp only at *
  have N1 : News h₀ L s.heap ((lf, listOf (.str c tc :: (strValues l ++ .str sep tsep :: chars)).toArray n) :: (f, lamObj lamE cell cod pm ct) :: (cod, oc) :: (cell, ol) :: (r, instObj 52 d) :: (d, lexDict w.params t1 t2 t3 t4 t5 (.int k tl) (.ref S) pb) :: (S, instObj 52 dS) :: (dS, strDict w.params u1 u2 u3 u4 u5 u6 u7 q f) :: (pb, listOf #[] np) :: off lf (off d news)) := fun x hx => by
    iterate 9 (rcases List.mem_cons.mp hx with rfl | hx; · exact N _ (by assumption))
    exact N _ (List.mem_filter.mp (List.mem_filter.mp hx).1).1
  refine tok_bare B F X N1 T hk CH hoc hvs hol off_ne (fun q hq => off_ne q (List.mem_filter.mp hq).1)
    (apart N mf mlf (by rw [lamCls]; simp)) (apart' N mcod mlf (neData hoc rfl (by intro e; cases e))) (apart' N mcell mlf (neData hol rfl (by intro e; cases e))) (apart N mr mlf (by simp)) (apart N md mlf (by simp)) (apart N mS mlf (by simp)) (apart N mdS mlf (by simp)) hpl
    (apart N mf md (by rw [lamCls]; simp)) (apart' N mcod md (neData hoc rfl (by intro e; cases e))) (apart' N mcell md (neData hol rfl (by intro e; cases e))) (apart N mr md (by simp)) (apart N mS md (by simp)) (apart' N mdS md (neData rfl rfl (by intro e; injection e with _ e; cases e))) (apart N mpb md (by simp)) hpos hlen hc hl hll hs1 hs2 hs3 hs4 hdp hun ?_
  · intro t' tl' n' h' tk' F' N' ho
    refine hret t' h' tk' _ F' N' (fun x hx hn => ?_) ⟨by k_mem, by k_mem, by k_mem, by k_mem, by k_mem, hoc, hvs, hol⟩ ⟨by k_mem, ⟨_, by k_mem⟩, ⟨_, by k_mem⟩⟩ ⟨_, by k_mem⟩ ho
    iterate 9 (refine List.mem_cons_of_mem _ ?_)
    have hn' : ¬ (x.1 = lf ∨ x.1 = d) := by simpa using hn
    exact mem_off (mem_off hx fun e => hn' (.inr e)) fun e => hn' (.inl e)
theorem tok_quote_k {σ : Sta} {ρ : Rm} {k : Int} {chars : List Value} {c sep : Str} {tc tsep : Tok} {l : List (Str × Tok)}
    (B : Below A₀ base outer h₀) (F : Fr h₀ L s.heap m) (X : (Mine.hd.heap_39 w.params).In h₀) (N : News h₀ L s.heap news) (T : Top p loose mean mg mb h₀) (hk : cs.kind = .function)
    (CH : CodeHd base 104 100) (St : StaIn w.params σ news) (Rr : RmIn w.params σ.S ρ k [] news) (Lf : LeftIn σ.lf (.str c tc :: (strValues l ++ .str sep tsep :: chars)) news) (hpl : ρ.pb ≠ σ.lf) (hpos : 1 ≤ s.toks) (hlen : chars.length ≤ 900) (hc : c = Str.ofString "\"") (hl : ∀ x ∈ l, Plain x.1) (hll : l.length ≤ 40) (hs : sep = Str.ofString "\"")
    (hdp : dp + 3 < recursionLimit) (hun : un + 30 < cLine)
    (hret : ∀ (t' : Tok) (h' : Heap) (tk' : Nat) (news' : List (Addr × Obj)), Fr h₀ L h' m → News h₀ L h' news' → Keep [σ.lf, ρ.d] news news' → StaIn w.params σ news' → RmIn w.params σ.S ρ k [] news' → LeftIn σ.lf (chars) news' → (2 ≤ ((cat l)).length → Okt t' tk') → Q (.str (cat l) t') { s with heap := h', toks := tk' }) :
    wpAny (model prog w) (ktrTop dp un gd cn cs L a ccd cl outer) (call (.ref 42) [.ref ρ.r]) Q E s := by
  obtain ⟨f, cell, cod, lf, S, dS, q, pm, ct, oc, ol, vs, tq, u1, u2, u3, u4, u5, u6, u7⟩ := σ
  obtain ⟨r, d, pb, t1, t2, t3, t4, t5⟩ := ρ
  obtain ⟨mf, mcod, mcell, mS, mdS, hoc, hvs, hol⟩ := St
  obtain ⟨mr, ⟨tl, md⟩, ⟨np, mpb⟩⟩ := Rr
  obtain ⟨n, mlf⟩ := Lf
  dsimp only at *
  have N1 : News h₀ L s.heap ((lf, listOf (.str c tc :: (strValues l ++ .str sep tsep :: chars)).toArray n) :: (f, lamObj lamE cell cod pm ct) :: (cod, oc) :: (cell, ol) :: (r, instObj 52 d) :: (d, lexDict w.params t1 t2 t3 t4 t5 (.int k tl) (.ref S) pb) :: (S, instObj 52 dS) :: (dS, strDict w.params u1 u2 u3 u4 u5 u6 u7 q f) :: (pb, listOf #[] np) :: off lf (off d news)) := fun x hx => by
    iterate 9 (rcases List.mem_cons.mp hx with rfl | hx; · exact N _ (by assumption))
    exact N _ (List.mem_filter.mp (List.mem_filter.mp hx).1).1
  refine tok_quote B F X N1 T hk CH hoc hvs hol off_ne (fun q hq => off_ne q (List.mem_filter.mp hq).1)
    (apart N mf mlf (by rw [lamCls]; simp)) (apart' N mcod mlf (neData hoc rfl (by intro e; cases e))) (apart' N mcell mlf (neData hol rfl (by intro e; cases e))) (apart N mr mlf (by simp)) (apart N md mlf (by simp)) (apart N mS mlf (by simp)) (apart N mdS mlf (by simp)) hpl
    (apart N mf md (by rw [lamCls]; simp)) (apart' N mcod md (neData hoc rfl (by intro e; cases e))) (apart' N mcell md (neData hol rfl (by intro e; cases e))) (apart N mr md (by simp)) (apart N mS md (by simp)) (apart' N mdS md (neData rfl rfl (by intro e; injection e with _ e; cases e))) (apart N mpb md (by simp)) hpos hlen hc hl hll hs hdp hun ?_
  · intro t' tl' n' h' tk' F' N' ho
    refine hret t' h' tk' _ F' N' (fun x hx hn => ?_) ⟨by k_mem, by k_mem, by k_mem, by k_mem, by k_mem, hoc, hvs, hol⟩ ⟨by k_mem, ⟨_, by k_mem⟩, ⟨_, by k_mem⟩⟩ ⟨_, by k_mem⟩ ho
    iterate 9 (refine List.mem_cons_of_mem _ ?_)
    have hn' : ¬ (x.1 = lf ∨ x.1 = d) := by simpa using hn
    exact mem_off (mem_off hx fun e => hn' (.inr e)) fun e => hn' (.inl e)
theorem tok_back_k {σ : Sta} {ρ : Rm} {k : Int} {chars : List Value} {e c sep : Str} {te tc tsep : Tok} {l : List (Str × Tok)}
    (B : Below A₀ base outer h₀) (F : Fr h₀ L s.heap m) (X : (Mine.hd.heap_39 w.params).In h₀) (N : News h₀ L s.heap news) (T : Top p loose mean mg mb h₀) (hk : cs.kind = .function)
    (CH : CodeHd base 104 100) (St : StaIn w.params σ news) (Rr : RmIn w.params σ.S ρ k [] news) (Lf : LeftIn σ.lf (.str e te :: .str c tc :: (strValues l ++ .str sep tsep :: chars)) news) (hpl : ρ.pb ≠ σ.lf) (hpos : 1 ≤ s.toks) (hlen : chars.length ≤ 900) (he : e = Str.ofString "\\") (hc : Plain c) (hl : ∀ x ∈ l, Plain x.1) (hll : l.length ≤ 40) (hs1 : sep.length ≤ 1) (hs2 : sep ≠ Str.ofString "") (hs3 : inWs sep = false) (hs4 : (!inWs sep) = true)
    (hdp : dp + 3 < recursionLimit) (hun : un + 30 < cLine)
    (hret : ∀ (t' : Tok) (h' : Heap) (tk' : Nat) (news' : List (Addr × Obj)), Fr h₀ L h' m → News h₀ L h' news' → Keep [σ.lf, ρ.d] news news' → StaIn w.params σ news' → RmIn w.params σ.S ρ (if sep = Str.ofString "\n" then k + 1 else k) [] news' → LeftIn σ.lf (chars) news' → (2 ≤ ((c ++ cat l)).length → Okt t' tk') → Q (.str (c ++ cat l) t') { s with heap := h', toks := tk' }) :
    wpAny (model prog w) (ktrTop dp un gd cn cs L a ccd cl outer) (call (.ref 42) [.ref ρ.r]) Q E s := by
  obtain ⟨f, cell, cod, lf, S, dS, q, pm, ct, oc, ol, vs, tq, u1, u2, u3, u4, u5, u6, u7⟩ := σ
  obtain ⟨r, d, pb, t1, t2, t3, t4, t5⟩ := ρ
  obtain ⟨mf, mcod, mcell, mS, mdS, hoc, hvs, hol⟩ := St
  obtain ⟨mr, ⟨tl, md⟩, ⟨np, mpb⟩⟩ := Rr
  obtain ⟨n, mlf⟩ := Lf
  dsimp only at *
  have N1 : News h₀ L s.heap ((lf, listOf (.str e te :: .str c tc :: (strValues l ++ .str sep tsep :: chars)).toArray n) :: (f, lamObj lamE cell cod pm ct) :: (cod, oc) :: (cell, ol) :: (r, instObj 52 d) :: (d, lexDict w.params t1 t2 t3 t4 t5 (.int k tl) (.ref S) pb) :: (S, instObj 52 dS) :: (dS, strDict w.params u1 u2 u3 u4 u5 u6 u7 q f) :: (pb, listOf #[] np) :: off lf (off d news)) := fun x hx => by
    iterate 9 (rcases List.mem_cons.mp hx with rfl | hx; · exact N _ (by assumption))
    exact N _ (List.mem_filter.mp (List.mem_filter.mp hx).1).1
  refine tok_back B F X N1 T hk CH hoc hvs hol off_ne (fun q hq => off_ne q (List.mem_filter.mp hq).1)
    (apart N mf mlf (by rw [lamCls]; simp)) (apart' N mcod mlf (neData hoc rfl (by intro e; cases e))) (apart' N mcell mlf (neData hol rfl (by intro e; cases e))) (apart N mr mlf (by simp)) (apart N md mlf (by simp)) (apart N mS mlf (by simp)) (apart N mdS mlf (by simp)) hpl
    (apart N mf md (by rw [lamCls]; simp)) (apart' N mcod md (neData hoc rfl (by intro e; cases e))) (apart' N mcell md (neData hol rfl (by intro e; cases e))) (apart N mr md (by simp)) (apart N mS md (by simp)) (apart' N mdS md (neData rfl rfl (by intro e; injection e with _ e; cases e))) (apart N mpb md (by simp)) hpos hlen he hc hl hll hs1 hs2 hs3 hs4 hdp hun ?_
  · intro t' tl' n' h' tk' F' N' ho
    refine hret t' h' tk' _ F' N' (fun x hx hn => ?_) ⟨by k_mem, by k_mem, by k_mem, by k_mem, by k_mem, hoc, hvs, hol⟩ ⟨by k_mem, ⟨_, by k_mem⟩, ⟨_, by k_mem⟩⟩ ⟨_, by k_mem⟩ ho
    iterate 9 (refine List.mem_cons_of_mem _ ?_)
    have hn' : ¬ (x.1 = lf ∨ x.1 = d) := by simpa using hn
    exact mem_off (mem_off hx fun e => hn' (.inr e)) fun e => hn' (.inl e)
theorem tok_wbare_k {σ : Sta} {ρ : Rm} {k : Int} {chars : List Value} {e0 c sep : Str} {te0 tc tsep : Tok} {l : List (Str × Tok)}
    (B : Below A₀ base outer h₀) (F : Fr h₀ L s.heap m) (X : (Mine.hd.heap_39 w.params).In h₀) (N : News h₀ L s.heap news) (T : Top p loose mean mg mb h₀) (hk : cs.kind = .function)
    (CH : CodeHd base 104 100) (St : StaIn w.params σ news) (Rr : RmIn w.params σ.S ρ k [] news) (Lf : LeftIn σ.lf (.str e0 te0 :: .str c tc :: (strValues l ++ .str sep tsep :: chars)) news) (hpl : ρ.pb ≠ σ.lf) (hpos : 1 ≤ s.toks) (hlen : chars.length ≤ 900) (hw1 : e0.length ≤ 1) (hw2 : e0 ≠ Str.ofString "") (hw3 : inWs e0 = false) (hw4 : (!inWs e0) = true) (hw5 : ¬ e0 = Str.ofString "\n") (hc : Plain c) (hl : ∀ x ∈ l, Plain x.1) (hll : l.length ≤ 40) (hlen8 : chars.length ≤ 800) (hs1 : sep.length ≤ 1) (hs2 : sep ≠ Str.ofString "") (hs3 : inWs sep = false) (hs4 : (!inWs sep) = true)
    (hdp : dp + 3 < recursionLimit) (hun : un + 30 < cLine)
    (hret : ∀ (t' : Tok) (h' : Heap) (tk' : Nat) (news' : List (Addr × Obj)), Fr h₀ L h' m → News h₀ L h' news' → Keep [σ.lf, ρ.d] news news' → StaIn w.params σ news' → RmIn w.params σ.S ρ (if sep = Str.ofString "\n" then k + 1 else k) [] news' → LeftIn σ.lf (chars) news' → (2 ≤ ((c ++ cat l)).length → Okt t' tk') → Q (.str (c ++ cat l) t') { s with heap := h', toks := tk' }) :
    wpAny (model prog w) (ktrTop dp un gd cn cs L a ccd cl outer) (call (.ref 42) [.ref ρ.r]) Q E s := by
  obtain ⟨f, cell, cod, lf, S, dS, q, pm, ct, oc, ol, vs, tq, u1, u2, u3, u4, u5, u6, u7⟩ := σ
  obtain ⟨r, d, pb, t1, t2, t3, t4, t5⟩ := ρ
  obtain ⟨mf, mcod, mcell, mS, mdS, hoc, hvs, hol⟩ := St
  obtain ⟨mr, ⟨tl, md⟩, ⟨np, mpb⟩⟩ := Rr
  obtain ⟨n, mlf⟩ := Lf
  dsimp only at *
  have N1 : News h₀ L s.heap ((lf, listOf (.str e0 te0 :: .str c tc :: (strValues l ++ .str sep tsep :: chars)).toArray n) :: (f, lamObj lamE cell cod pm ct) :: (cod, oc) :: (cell, ol) :: (r, instObj 52 d) :: (d, lexDict w.params t1 t2 t3 t4 t5 (.int k tl) (.ref S) pb) :: (S, instObj 52 dS) :: (dS, strDict w.params u1 u2 u3 u4 u5 u6 u7 q f) :: (pb, listOf #[] np) :: off lf (off d news)) := fun x hx => by
    iterate 9 (rcases List.mem_cons.mp hx with rfl | hx; · exact N _ (by assumption))
    exact N _ (List.mem_filter.mp (List.mem_filter.mp hx).1).1
  refine tok_wbare B F X N1 T hk CH hoc hvs hol off_ne (fun q hq => off_ne q (List.mem_filter.mp hq).1)
    (apart N mf mlf (by rw [lamCls]; simp)) (apart' N mcod mlf (neData hoc rfl (by intro e; cases e))) (apart' N mcell mlf (neData hol rfl (by intro e; cases e))) (apart N mr mlf (by simp)) (apart N md mlf (by simp)) (apart N mS mlf (by simp)) (apart N mdS mlf (by simp)) hpl
    (apart N mf md (by rw [lamCls]; simp)) (apart' N mcod md (neData hoc rfl (by intro e; cases e))) (apart' N mcell md (neData hol rfl (by intro e; cases e))) (apart N mr md (by simp)) (apart N mS md (by simp)) (apart' N mdS md (neData rfl rfl (by intro e; injection e with _ e; cases e))) (apart N mpb md (by simp)) hpos hlen hw1 hw2 hw3 hw4 hw5 hc hl hll hlen8 hs1 hs2 hs3 hs4 hdp hun ?_
  · intro t' tl' n' h' tk' F' N' ho
    refine hret t' h' tk' _ F' N' (fun x hx hn => ?_) ⟨by k_mem, by k_mem, by k_mem, by k_mem, by k_mem, hoc, hvs, hol⟩ ⟨by k_mem, ⟨_, by k_mem⟩, ⟨_, by k_mem⟩⟩ ⟨_, by k_mem⟩ ho
    iterate 9 (refine List.mem_cons_of_mem _ ?_)
    have hn' : ¬ (x.1 = lf ∨ x.1 = d) := by simpa using hn
    exact mem_off (mem_off hx fun e => hn' (.inr e)) fun e => hn' (.inl e)
theorem tok_wback_k {σ : Sta} {ρ : Rm} {k : Int} {chars : List Value} {e0 e c sep : Str} {te0 te tc tsep : Tok} {l : List (Str × Tok)}
    (B : Below A₀ base outer h₀) (F : Fr h₀ L s.heap m) (X : (Mine.hd.heap_39 w.params).In h₀) (N : News h₀ L s.heap news) (T : Top p loose mean mg mb h₀) (hk : cs.kind = .function)
    (CH : CodeHd base 104 100) (St : StaIn w.params σ news) (Rr : RmIn w.params σ.S ρ k [] news) (Lf : LeftIn σ.lf (.str e0 te0 :: .str e te :: .str c tc :: (strValues l ++ .str sep tsep :: chars)) news) (hpl : ρ.pb ≠ σ.lf) (hpos : 1 ≤ s.toks) (hlen : chars.length ≤ 900) (hw1 : e0.length ≤ 1) (hw2 : e0 ≠ Str.ofString "") (hw3 : inWs e0 = false) (hw4 : (!inWs e0) = true) (hw5 : ¬ e0 = Str.ofString "\n") (he : e = Str.ofString "\\") (hc : Plain c) (hl : ∀ x ∈ l, Plain x.1) (hll : l.length ≤ 40) (hlen8 : chars.length ≤ 800) (hs1 : sep.length ≤ 1) (hs2 : sep ≠ Str.ofString "") (hs3 : inWs sep = false) (hs4 : (!inWs sep) = true)
    (hdp : dp + 3 < recursionLimit) (hun : un + 30 < cLine)
    (hret : ∀ (t' : Tok) (h' : Heap) (tk' : Nat) (news' : List (Addr × Obj)), Fr h₀ L h' m → News h₀ L h' news' → Keep [σ.lf, ρ.d] news news' → StaIn w.params σ news' → RmIn w.params σ.S ρ (if sep = Str.ofString "\n" then k + 1 else k) [] news' → LeftIn σ.lf (chars) news' → (2 ≤ ((c ++ cat l)).length → Okt t' tk') → Q (.str (c ++ cat l) t') { s with heap := h', toks := tk' }) :
    wpAny (model prog w) (ktrTop dp un gd cn cs L a ccd cl outer) (call (.ref 42) [.ref ρ.r]) Q E s := by
  obtain ⟨f, cell, cod, lf, S, dS, q, pm, ct, oc, ol, vs, tq, u1, u2, u3, u4, u5, u6, u7⟩ := σ
  obtain ⟨r, d, pb, t1, t2, t3, t4, t5⟩ := ρ
  obtain ⟨mf, mcod, mcell, mS, mdS, hoc, hvs, hol⟩ := St
  obtain ⟨mr, ⟨tl, md⟩, ⟨np, mpb⟩⟩ := Rr
  obtain ⟨n, mlf⟩ := Lf
  dsimp only at *
  have N1 : News h₀ L s.heap ((lf, listOf (.str e0 te0 :: .str e te :: .str c tc :: (strValues l ++ .str sep tsep :: chars)).toArray n) :: (f, lamObj lamE cell cod pm ct) :: (cod, oc) :: (cell, ol) :: (r, instObj 52 d) :: (d, lexDict w.params t1 t2 t3 t4 t5 (.int k tl) (.ref S) pb) :: (S, instObj 52 dS) :: (dS, strDict w.params u1 u2 u3 u4 u5 u6 u7 q f) :: (pb, listOf #[] np) :: off lf (off d news)) := fun x hx => by
    iterate 9 (rcases List.mem_cons.mp hx with rfl | hx; · exact N _ (by assumption))
    exact N _ (List.mem_filter.mp (List.mem_filter.mp hx).1).1
  refine tok_wback B F X N1 T hk CH hoc hvs hol off_ne (fun q hq => off_ne q (List.mem_filter.mp hq).1)
    (apart N mf mlf (by rw [lamCls]; simp)) (apart' N mcod mlf (neData hoc rfl (by intro e; cases e))) (apart' N mcell mlf (neData hol rfl (by intro e; cases e))) (apart N mr mlf (by simp)) (apart N md mlf (by simp)) (apart N mS mlf (by simp)) (apart N mdS mlf (by simp)) hpl
    (apart N mf md (by rw [lamCls]; simp)) (apart' N mcod md (neData hoc rfl (by intro e; cases e))) (apart' N mcell md (neData hol rfl (by intro e; cases e))) (apart N mr md (by simp)) (apart N mS md (by simp)) (apart' N mdS md (neData rfl rfl (by intro e; injection e with _ e; cases e))) (apart N mpb md (by simp)) hpos hlen hw1 hw2 hw3 hw4 hw5 he hc hl hll hlen8 hs1 hs2 hs3 hs4 hdp hun ?_
  · intro t' tl' n' h' tk' F' N' ho
    refine hret t' h' tk' _ F' N' (fun x hx hn => ?_) ⟨by k_mem, by k_mem, by k_mem, by k_mem, by k_mem, hoc, hvs, hol⟩ ⟨by k_mem, ⟨_, by k_mem⟩, ⟨_, by k_mem⟩⟩ ⟨_, by k_mem⟩ ho
    iterate 9 (refine List.mem_cons_of_mem _ ?_)
    have hn' : ¬ (x.1 = lf ∨ x.1 = d) := by simpa using hn
    exact mem_off (mem_off hx fun e => hn' (.inr e)) fun e => hn' (.inl e)
theorem tok_end_k {σ : Sta} {ρ : Rm} {k : Int} {chars : List Value} 
    (B : Below A₀ base outer h₀) (F : Fr h₀ L s.heap m) (X : (Mine.hd.heap_39 w.params).In h₀) (N : News h₀ L s.heap news) (T : Top p loose mean mg mb h₀) (hk : cs.kind = .function)
    (CH : CodeHd base 104 100) (St : StaIn w.params σ news) (Rr : RmIn w.params σ.S ρ k [] news) (Lf : LeftIn σ.lf ([]) news) (hpl : ρ.pb ≠ σ.lf) (hpos : 1 ≤ s.toks) (hlen : chars.length ≤ 900) 
    (hdp : dp + 3 < recursionLimit) (hun : un + 30 < cLine)
    (hret : ∀ (t' : Tok) (h' : Heap) (tk' : Nat) (news' : List (Addr × Obj)), Fr h₀ L h' m → News h₀ L h' news' → Keep [σ.lf, ρ.d] news news' → StaIn w.params σ news' → RmIn w.params σ.S ρ k [] news' → LeftIn σ.lf ([]) news' → (2 ≤ ((Str.ofString "")).length → Okt t' tk') → Q (.str (Str.ofString "") t') { s with heap := h', toks := tk' }) :
    wpAny (model prog w) (ktrTop dp un gd cn cs L a ccd cl outer) (call (.ref 42) [.ref ρ.r]) Q E s := by
  obtain ⟨f, cell, cod, lf, S, dS, q, pm, ct, oc, ol, vs, tq, u1, u2, u3, u4, u5, u6, u7⟩ := σ
  obtain ⟨r, d, pb, t1, t2, t3, t4, t5⟩ := ρ
  obtain ⟨mf, mcod, mcell, mS, mdS, hoc, hvs, hol⟩ := St
  obtain ⟨mr, ⟨tl, md⟩, ⟨np, mpb⟩⟩ := Rr
  obtain ⟨n, mlf⟩ := Lf
  dsimp only at *
  have N1 : News h₀ L s.heap ((lf, listOf #[] n) :: (f, lamObj lamE cell cod pm ct) :: (cod, oc) :: (cell, ol) :: (r, instObj 52 d) :: (d, lexDict w.params t1 t2 t3 t4 t5 (.int k tl) (.ref S) pb) :: (S, instObj 52 dS) :: (dS, strDict w.params u1 u2 u3 u4 u5 u6 u7 q f) :: (pb, listOf #[] np) :: off lf (off d news)) := fun x hx => by
    iterate 9 (rcases List.mem_cons.mp hx with rfl | hx; · exact N _ (by assumption))
    exact N _ (List.mem_filter.mp (List.mem_filter.mp hx).1).1
  refine tok_end (chars := chars) B F X N1 T hk CH hoc hvs hol off_ne (fun q hq => off_ne q (List.mem_filter.mp hq).1)
    (apart N mf mlf (by rw [lamCls]; simp)) (apart' N mcod mlf (neData hoc rfl (by intro e; cases e))) (apart' N mcell mlf (neData hol rfl (by intro e; cases e))) (apart N mr mlf (by simp)) (apart N md mlf (by simp)) (apart N mS mlf (by simp)) (apart N mdS mlf (by simp)) hpl
    (apart N mf md (by rw [lamCls]; simp)) (apart' N mcod md (neData hoc rfl (by intro e; cases e))) (apart' N mcell md (neData hol rfl (by intro e; cases e))) (apart N mr md (by simp)) (apart N mS md (by simp)) (apart' N mdS md (neData rfl rfl (by intro e; injection e with _ e; cases e))) (apart N mpb md (by simp)) hpos hlen  hdp hun ?_
  · intro t' tl' n' h' tk' F' N' ho
    refine hret t' h' tk' _ F' N' (fun x hx hn => ?_) ⟨by k_mem, by k_mem, by k_mem, by k_mem, by k_mem, hoc, hvs, hol⟩ ⟨by k_mem, ⟨_, by k_mem⟩, ⟨_, by k_mem⟩⟩ ⟨_, by k_mem⟩ ho
    iterate 9 (refine List.mem_cons_of_mem _ ?_)
    have hn' : ¬ (x.1 = lf ∨ x.1 = d) := by simpa using hn
    exact mem_off (mem_off hx fun e => hn' (.inr e)) fun e => hn' (.inl e)
end
/-! part PgK -/
theorem StaIn.keep {P : Params} {σ : Sta} {ds : List Addr} {h₀ h : Heap} {L : Addr} {news news' : List (Addr × Obj)} (h : StaIn P σ news) (hk : Keep ds news news')
    (hd : ∀ (a : Addr) (o : Obj), (a, o) ∈ news → (o.cls = .type "function" ∨ (∃ x, o.data = .fields x) ∨ (∃ x, o.data = .cell x) ∨ o.data = .plain ∨ (∃ es, o.data = .dict es 5)) → a ∉ ds) : StaIn P σ news' :=
  ⟨hk _ h.hf (hd _ _ h.hf (.inl lamCls)), hk _ h.hcod (hd _ _ h.hcod (.inr (.inl ⟨_, h.oc⟩))), hk _ h.hcell (hd _ _ h.hcell (.inr (.inr (.inl ⟨_, h.ol⟩)))), hk _ h.hS (hd _ _ h.hS (.inr (.inr (.inr (.inl rfl))))), hk _ h.hdS (hd _ _ h.hdS (.inr (.inr (.inr (.inr ⟨_, rfl⟩))))), h.oc, h.vs, h.ol⟩
theorem StaIn.mono {P : Params} {σ : Sta} {news news' : List (Addr × Obj)} (h : StaIn P σ news) (hs : ∀ p ∈ news, p ∈ news') : StaIn P σ news' :=
  ⟨hs _ h.hf, hs _ h.hcod, hs _ h.hcell, hs _ h.hS, hs _ h.hdS, h.oc, h.vs, h.ol⟩
theorem RmIn.mono {P : Params} {S : Addr} {ρ : Rm} {k : Int} {ws : List Value} {news news' : List (Addr × Obj)} (h : RmIn P S ρ k ws news) (hs : ∀ p ∈ news, p ∈ news') : RmIn P S ρ k ws news' :=
  ⟨hs _ h.hr, h.hd.elim fun tl e => ⟨tl, hs _ e⟩, h.hpb.elim fun np e => ⟨np, hs _ e⟩⟩
theorem LeftIn.mono {lf : Addr} {chars : List Value} {news news' : List (Addr × Obj)} (h : LeftIn lf chars news) (hs : ∀ p ∈ news, p ∈ news') : LeftIn lf chars news' := h.elim fun n e => ⟨n, hs _ e⟩
/-- get_token at a lexer with nothing pushed: what it reads -/
def Reads (prog : Program) (w : World) (p : Program) (loose : List Str) (mean : ExcName → Option Value) (mg mb : Str → Option Value) (base : Heap) (σ : Sta) (ρ : Rm) (k : Int) (chars : List Value) (W : Str) (k' : Int) (chars' : List Value) : Prop :=
  ∀ (dp un : Nat) (gd : Option (List Code)) (cn : Str) (cs : Scope) (a : Addr) (ccd : Value) (cl : List (Str × Addr)) (outer : List Env) (A₀ : Around) (h₀ : Heap) (L : Addr) (m : Str → Option Value) (s : Shared) (Q E : Value → Shared → Prop) (news : List (Addr × Obj)),
    Below A₀ base outer h₀ → Fr h₀ L s.heap m → (Mine.hd.heap_39 w.params).In h₀ → News h₀ L s.heap news → Top p loose mean mg mb h₀ → cs.kind = .function → CodeHd base 104 100 →
    StaIn w.params σ news → RmIn w.params σ.S ρ k [] news → LeftIn σ.lf chars news → ρ.pb ≠ σ.lf → 1 ≤ s.toks → dp + 3 < recursionLimit → un + 30 < cLine →
    (∀ (t' : Tok) (h' : Heap) (tk' : Nat) (news' : List (Addr × Obj)), Fr h₀ L h' m → News h₀ L h' news' → Keep [σ.lf, ρ.d] news news' → StaIn w.params σ news' → RmIn w.params σ.S ρ k' [] news' → LeftIn σ.lf chars' news' → (2 ≤ W.length → Okt t' tk') → Q (.str W t') { s with heap := h', toks := tk' }) →
    wpAny (model prog w) (ktrTop dp un gd cn cs L a ccd cl outer) (call (.ref 42) [.ref ρ.r]) Q E s
section
variable {prog : Program} {w : World} {p : Program} {loose : List Str} {mean : ExcName → Option Value} {mg mb : Str → Option Value}
    {dp un : Nat} {gd : Option (List Code)} {cn : Str} {cs : Scope} {a : Addr} {ccd : Value} {cl : List (Str × Addr)} {outer : List Env} {A₀ : Around} {base h₀ : Heap} {L : Addr} {m : Str → Option Value} {s : Shared} {Q E : Value → Shared → Prop} {news : List (Addr × Obj)}
theorem get_k {S : Addr} {ρ : Rm} {k : Int} {v : Value} {ws : List Value}
    (B : Below A₀ base outer h₀) (F : Fr h₀ L s.heap m) (X : (Mine.hd.heap_39 w.params).In h₀) (N : News h₀ L s.heap news) (T : Top p loose mean mg mb h₀) (hk : cs.kind = .function)
    (Rr : RmIn w.params S ρ k (v :: ws) news) (hws : ws.length ≤ 1000)
    (hdp : dp + 1 < recursionLimit) (hun : un + 8 < cLine)
    (hret : ∀ (h' : Heap) (tk' : Nat) (news' : List (Addr × Obj)), Fr h₀ L h' m → News h₀ L h' news' → Keep [ρ.pb] news news' → RmIn w.params S ρ k ws news' → Q v { s with heap := h', toks := tk' }) :
    wpAny (model prog w) (ktrTop dp un gd cn cs L a ccd cl outer) (call (.ref 42) [.ref ρ.r]) Q E s := by
  obtain ⟨mr, ⟨tl, md⟩, ⟨np, mpb⟩⟩ := Rr
  refine get_t B F X N T hk mr md mpb hws hdp hun fun h' tk' F' N' => hret h' tk' _ F' N' (fun x hx hn => mem_upd_ne hx (by simpa using hn)) ⟨mem_upd_ne mr (apart N mr mpb (by simp)), ⟨tl, mem_upd_ne md (apart N md mpb (by simp))⟩, ⟨_, mem_upd_self mpb⟩⟩
theorem push_k {S : Addr} {ρ : Rm} {k : Int} {v : Value} {ws : List Value}
    (B : Below A₀ base outer h₀) (F : Fr h₀ L s.heap m) (X : (Mine.hd.heap_39 w.params).In h₀) (N : News h₀ L s.heap news) (T : Top p loose mean mg mb h₀) (hk : cs.kind = .function)
    (Rr : RmIn w.params S ρ k ws news) (hws : ws.length ≤ 1000)
    (hdp : dp + 1 < recursionLimit) (hun : un + 8 < cLine)
    (hret : ∀ (h' : Heap) (tk' : Nat) (news' : List (Addr × Obj)), Fr h₀ L h' m → News h₀ L h' news' → Keep [ρ.pb] news news' → RmIn w.params S ρ k (ws ++ [v]) news' → Q .none { s with heap := h', toks := tk' }) :
    wpAny (model prog w) (ktrTop dp un gd cn cs L a ccd cl outer) (call (.ref 49) [.ref ρ.r, v]) Q E s := by
  obtain ⟨mr, ⟨tl, md⟩, ⟨np, mpb⟩⟩ := Rr
  refine push_t B F X N T hk mr md mpb hws hdp hun fun h' tk' F' N' => hret h' tk' _ F' N' (fun x hx hn => mem_upd_ne hx (by simpa using hn)) ⟨mem_upd_ne mr (apart N mr mpb (by simp)), ⟨tl, mem_upd_ne md (apart N md mpb (by simp))⟩, ⟨_, mem_upd_self mpb⟩⟩
end
local macro_rules | `(tactic| news_mem) => `(tactic| k_mem)
theorem StaIn.keepPb {P : Params} {σ : Sta} {h₀ h : Heap} {L pb : Addr} {its : Array Value} {np : Nat} {news news' : List (Addr × Obj)} (hS : StaIn P σ news) (N : News h₀ L h news) (mpb : (pb, listOf its np) ∈ news) (hk : Keep [pb] news news') : StaIn P σ news' :=
  hS.keep (h₀ := h₀) (h := h) (L := L) hk fun a o ha hc => by
    have : a ≠ pb := apart' N ha mpb (by
      rcases hc with e | ⟨x, e⟩ | ⟨x, e⟩ | e | ⟨x, e⟩
      · intro q; rw [q] at e; simp at e
      all_goals exact neData e rfl (by intro q; cases q))
    simpa using this
theorem LeftIn.keep {lf : Addr} {chars : List Value} {ds : List Addr} {news news' : List (Addr × Obj)} (h : LeftIn lf chars news) (hk : Keep ds news news') (hn : lf ∉ ds) : LeftIn lf chars news' := h.elim fun n e => ⟨n, hk _ e hn⟩
section
variable {prog : Program} {w : World} {p : Program} {loose : List Str} {mean : ExcName → Option Value} {mg mb : Str → Option Value}
    {dp un : Nat} {gd : Option (List Code)} {cn : Str} {cs : Scope} {a : Addr} {ccd : Value} {cl : List (Str × Addr)} {outer : List Env} {A₀ : Around} {base h₀ : Heap} {L : Addr} {m : Str → Option Value} {s : Shared} {Q E : Value → Shared → Prop} {news : List (Addr × Obj)}
theorem line_k {S : Addr} {ρ : Rm} {k : Int} {v0 v1 : Value}
    (B : Below A₀ base outer h₀) (F : Fr h₀ L s.heap m) (X : (Mine.hd.heap_39 w.params).In h₀) (N : News h₀ L s.heap news) (T : Top p loose mean mg mb h₀) (hk : cs.kind = .function)
    (Rr : RmIn w.params S ρ k [v0, v1] news)
    (hdp : dp + 2 < recursionLimit) (hun : un + 16 < cLine)
    (hret : ∀ (l : Addr) (h' : Heap) (tk' : Nat) (news' : List (Addr × Obj)), Fr h₀ L h' m → News h₀ L h' news' → Keep [ρ.pb] news news' → RmIn w.params S ρ k [v0, v1] news' → (l, listOf #[v0, v1] 0) ∈ news' → (∀ p ∈ news, @LT.lt Nat _ p.1 l) → Q (.ref l) { s with heap := h', toks := tk' }) :
    wpAny (model prog w) (ktrTop dp un gd cn cs L a ccd cl outer) (call (.ref 112) [.ref ρ.r]) Q E s := by
  k_with_none
  w_top off
  k_with "call builtin:list.pop" => (k_here; (with_reducible show wpAny _ _ (call (Value.builtin _) [Value.ref _, Value.int 0 _]) _ _ _); k_dflt (refine pop0 (by k_asm) (by k_asm) (by k_upd) (by assumption) ?_); intro _ _ _)
  k_with "truthy ref" => (k_here; k_dflt (refine truthyCons (by k_asm) (by k_mem) (by assumption) ?_); (try rw [if_pos rfl]))
  k_with "call builtin:len" => (k_here; (with_reducible show wpAny _ _ (call (Value.builtin "len") [Value.ref _]) _ _ _); k_dflt (refine lenLed (by k_asm) (by k_mem) (by first | assumption | (simp only [List.length_cons, List.length_nil]; omega)) ?_))
  k_with "call builtin:iter" => (k_here; (with_reducible show wpAny _ _ (call (Value.builtin "iter") [Value.ref _, Value.str _ _]) _ _ _); k_dflt (refine iter2 (by k_asm) (by k_asm) (by k_mem) ?_); intro _ _ _ _ lz9; (try k_lt lz9))
  k_with "exec For Name Name cons nil" => (k_here; k_dflt (refine owit_for ?_))
  k_with "pyIter ref" => ((with_reducible show wpAny _ _ (pyIter (Value.ref _)) (OwitAt _ _ _ _ _ _ _ _) _ _); k_here; k_dflt (refine iter_self (by exact News.get (by k_asm) (by k_mem)) ?_))
  k_with "OwitRest" => refine hold ?_
  k_with "execs cons" => ((with_reducible refine wpAny_execs_cons ?_); try dsimp only)
  k_with "execs nil" => refine wpAny_execs_nil ?_
  k_with "call ref" => (k_dflt (show wpAny _ _ (call (Value.ref 42) [Value.ref _]) _ _ _); refine hold ?_)
  k_with "call ref" => (k_dflt (show wpAny _ _ (call (Value.ref 49) [Value.ref _, _]) _ _ _); refine hold ?_)
  have hmr := Rr.hr
  obtain ⟨tl, hmd⟩ := Rr.hd
  refine wpAny_call ?_
  k_dflt cell_enter
  k_steps
  refine Hold.out (get_k (by k_asm) (by k_asm) (by k_asm) (by k_asm) (by k_asm) (by rfl) Rr (by simp) (by ktr_room) (by ktr_units) ?_)
  intro h1 tk1 news1 F1 N1 K1 R1
  have hmr1 := R1.hr
  obtain ⟨tl1, hmd1⟩ := R1.hd
  k_steps
  refine Hold.out (get_k (by k_asm) (by k_asm) (by k_asm) (by k_asm) (by k_asm) (by rfl) R1 (by simp) (by ktr_room) (by ktr_units) ?_)
  intro h2 tk2 news2 F2 N2 K2 R2
  have hmr2 := R2.hr
  obtain ⟨tl2, hmd2⟩ := R2.hd
  obtain ⟨np2, hmp2⟩ := R2.hpb
  k_steps
  (rename ∀ p ∈ news2, p.1 < _ => lt2)
  have hlt := lt2 _ hmp2
  refine Hold.out (push_k (by k_asm) (by k_asm) (by k_asm) (by k_asm) (by k_asm) (by rfl) (R2.mono fun p hp => .tail _ hp) (by simp) (by ktr_room) (by ktr_units) ?_)
  intro h3 tk3 news3 F3 N3 K3 R3
  have hmr3 := R3.hr
  obtain ⟨tl3, hmd3⟩ := R3.hd
  obtain ⟨np3, hmp3⟩ := R3.hpb
  have hl3 := K3 _ (.head _) (by simpa using (Nat.ne_of_gt hlt))
  k_steps
  refine Hold.out (push_k (by k_asm) (by k_asm) (by k_asm) (by k_asm) (by k_asm) (by rfl) R3 (by simp) (by ktr_room) (by ktr_units) ?_)
  intro h4 tk4 news4 F4 N4 K4 R4
  have hmr4 := R4.hr
  obtain ⟨tl4, hmd4⟩ := R4.hd
  have hl4 := K4 _ hl3 (by simpa using (Nat.ne_of_gt hlt))
  k_steps

  exact hret _ _ _ _ (by k_asm) (by k_asm) (fun p hp hn => K4 p (K3 p (.tail _ (K2 p (K1 p hp hn) hn)) hn) hn) R4 hl4 (fun p hp => by
      by_cases e : p.1 = ρ.pb
      · rw [e]; exact hlt
      · exact lt2 p (K2 p (K1 p hp (by simpa using e)) (by simpa using e)))
theorem line_r {σ : Sta} {ρ : Rm} {k k1 k2 : Int} {chars chars1 chars2 : List Value} {W0 W1 : Str}
    (B : Below A₀ base outer h₀) (F : Fr h₀ L s.heap m) (X : (Mine.hd.heap_39 w.params).In h₀) (N : News h₀ L s.heap news) (T : Top p loose mean mg mb h₀) (hk : cs.kind = .function) (CH : CodeHd base 104 100)
    (G1 : Reads prog w p loose mean mg mb base σ ρ k chars W0 k1 chars1) (G2 : Reads prog w p loose mean mg mb base σ ρ k1 chars1 W1 k2 chars2)
    (St : StaIn w.params σ news) (Rr : RmIn w.params σ.S ρ k [] news) (Lf : LeftIn σ.lf chars news) (hpl : ρ.pb ≠ σ.lf) (hpos : 1 ≤ s.toks) (hW0 : 2 ≤ W0.length) (hW1 : 2 ≤ W1.length)
    (hdp : dp + 4 < recursionLimit) (hun : un + 40 < cLine)
    (hret : ∀ (l : Addr) (t0 t1 : Tok) (h' : Heap) (tk' : Nat) (news' : List (Addr × Obj)), Fr h₀ L h' m → News h₀ L h' news' → Keep [σ.lf, ρ.d, ρ.pb] news news' → StaIn w.params σ news' → RmIn w.params σ.S ρ k2 [.str W0 t0, .str W1 t1] news' → LeftIn σ.lf chars2 news' →
      (l, listOf #[.str W0 t0, .str W1 t1] 0) ∈ news' → Okt t0 tk' → Okt t1 tk' → (∀ p ∈ news, @LT.lt Nat _ p.1 l) → Q (.ref l) { s with heap := h', toks := tk' }) :
    wpAny (model prog w) (ktrTop dp un gd cn cs L a ccd cl outer) (call (.ref 112) [.ref ρ.r]) Q E s := by
  k_with_none
  w_top off
  k_with "call builtin:list.pop" => (k_here; (with_reducible show wpAny _ _ (call (Value.builtin _) [Value.ref _, Value.int 0 _]) _ _ _); k_dflt (refine pop0 (by k_asm) (by k_asm) (by k_upd) (by assumption) ?_); intro _ _ _)
  k_with "truthy ref" => (k_here; k_dflt (refine truthyCons (by k_asm) (by k_mem) (by assumption) ?_); (try rw [if_pos rfl]))
  k_with "call builtin:len" => (k_here; (with_reducible show wpAny _ _ (call (Value.builtin "len") [Value.ref _]) _ _ _); k_dflt (refine lenLed (by k_asm) (by k_mem) (by first | assumption | (simp only [List.length_cons, List.length_nil]; omega)) ?_))
  k_with "call builtin:iter" => (k_here; (with_reducible show wpAny _ _ (call (Value.builtin "iter") [Value.ref _, Value.str _ _]) _ _ _); k_dflt (refine iter2 (by k_asm) (by k_asm) (by k_mem) ?_); intro _ _ _ _ lz9; (try k_lt lz9))
  k_with "exec For Name Name cons nil" => (k_here; k_dflt (refine owit_for ?_))
  k_with "pyIter ref" => ((with_reducible show wpAny _ _ (pyIter (Value.ref _)) (OwitAt _ _ _ _ _ _ _ _) _ _); k_here; k_dflt (refine iter_self (by exact News.get (by k_asm) (by k_mem)) ?_))
  k_with "OwitRest" => refine hold ?_
  k_with "execs cons" => ((with_reducible refine wpAny_execs_cons ?_); try dsimp only)
  k_with "execs nil" => refine wpAny_execs_nil ?_
  k_with "call ref" => (k_dflt (show wpAny _ _ (call (Value.ref 42) [Value.ref _]) _ _ _); refine hold ?_)
  k_with "call ref" => (k_dflt (show wpAny _ _ (call (Value.ref 49) [Value.ref _, _]) _ _ _); refine hold ?_)
  have hmr := Rr.hr
  obtain ⟨tl, hmd⟩ := Rr.hd
  refine wpAny_call ?_
  k_dflt cell_enter
  k_steps
  refine Hold.out (G1 _ _ _ _ _ _ _ _ _ _ _ _ _ _ _ _ _ (by k_asm) (by k_asm) (by k_asm) (by k_asm) (by k_asm) (by rfl) CH St Rr Lf hpl (by dsimp only; omega) (by ktr_room) (by ktr_units) ?_)
  intro t0 h1 tk1 news1 F1 N1 K1 S1 R1 L1 ho1
  have hmr1 := R1.hr
  obtain ⟨tl1, hmd1⟩ := R1.hd
  k_steps
  have hok0 := ho1 hW0
  refine Hold.out (wpAny_with_toks (n := tk1) (by dsimp only; omega) (G2 _ _ _ _ _ _ _ _ _ _ _ _ _ _ _ _ _ (by k_asm) (by k_asm) (by k_asm) (by k_asm) (by k_asm) (by rfl) CH S1 R1 L1 hpl (by dsimp only; have := hok0.1; have := hok0.2; omega) (by ktr_room) (by ktr_units) ?_))
  intro t1 h2 tk2 news2 F2 N2 K2 S2 R2 L2 ho2 hk12
  dsimp only at hk12
  have hok1 := ho2 hW1
  have hmr2 := R2.hr
  obtain ⟨tl2, hmd2⟩ := R2.hd
  obtain ⟨np2, hmp2⟩ := R2.hpb
  k_steps
  (rename ∀ p ∈ news2, p.1 < _ => lt2)
  have hlt := lt2 _ hmp2
  refine Hold.out (wpAny_with_toks (n := tk2) (by dsimp only; omega) (push_k (by k_asm) (by k_asm) (by k_asm) (by k_asm) (by k_asm) (by rfl) (R2.mono fun p hp => .tail _ hp) (by simp) (by ktr_room) (by ktr_units) ?_))
  intro h3 tk3 news3 F3 N3 K3 R3 hk23
  dsimp only at hk23
  have hmr3 := R3.hr
  obtain ⟨tl3, hmd3⟩ := R3.hd
  obtain ⟨np3, hmp3⟩ := R3.hpb
  have hl3 := K3 _ (.head _) (by simpa using (Nat.ne_of_gt hlt))
  k_steps
  refine Hold.out (wpAny_with_toks (n := tk3) (by dsimp only; omega) (push_k (by k_asm) (by k_asm) (by k_asm) (by k_asm) (by k_asm) (by rfl) R3 (by simp) (by ktr_room) (by ktr_units) ?_))
  intro h4 tk4 news4 F4 N4 K4 R4 hk34
  dsimp only at hk34
  have hmr4 := R4.hr
  obtain ⟨tl4, hmd4⟩ := R4.hd
  have hl4 := K4 _ hl3 (by simpa using (Nat.ne_of_gt hlt))
  k_steps

  have S3 := (S2.mono fun p hp => List.Mem.tail _ hp).keepPb (by assumption) (.tail _ hmp2) K3
  have S4 := S3.keepPb N3 hmp3 K4
  have hlf : σ.lf ∉ [ρ.pb] := by simpa using (Ne.symm hpl)
  exact hret _ _ _ _ _ _ (by k_asm) (by k_asm) (fun p hp hn => by
      have a1 : p.1 ∉ [σ.lf, ρ.d] := fun q => hn (by rcases List.mem_cons.mp q with e | q; · exact e ▸ .head _
                                                     · exact (List.mem_singleton.mp q) ▸ .tail _ (.head _))
      have a2 : p.1 ∉ [ρ.pb] := fun q => hn ((List.mem_singleton.mp q) ▸ .tail _ (.tail _ (.head _)))
      exact K4 p (K3 p (.tail _ (K2 p (K1 p hp a1) a1)) a2) a2) S4 R4 (((L2.mono fun p hp => List.Mem.tail _ hp).keep K3 hlf).keep K4 hlf) hl4 (hok0.mono (by omega)) (hok1.mono (by omega)) (fun p hp => by
      by_cases e : p.1 ∈ [σ.lf, ρ.d]
      · rcases List.mem_cons.mp e with e | e
        · obtain ⟨nl, ml⟩ := L2
          rw [e]; exact lt2 _ ml
        · rw [List.mem_singleton.mp e]; exact lt2 _ hmd2
      · exact lt2 p (K2 p (K1 p hp e) e))
end
/-! part PgL -/
section
variable {prog : Program} {w : World} {A : Around} {E : Value → Shared → Prop} {s : Shared} {h₀ : Heap} {L D : Addr} {m : Str → Option Value} {news : List (Addr × Obj)} {n : Nat}
theorem itemLed {value slice : PySem.Expr} {vs : List Value} {k : Int} {u : Tok} {v : Value} {Q : Value → Shared → Prop}
    (N : News h₀ L s.heap news) (hm : (D, listOf vs.toArray n) ∈ news) (h0 : 0 ≤ k) (hhi : k < 2 ^ 63) (hx : vs[k.toNat]? = some v) (h : Q v s)
    (hs : subscripted slice false (.ref D) (.int k u) = operate [.ref D, .int k u] (getItem (.ref D) (.int k u)) := by with_unfolding_all rfl) :
    wpAny (model prog w) A (subscriptTail value slice (.ref D) (.int k u)) Q E s :=
  have hl := News.isList N hm
  tail_any hl.typeIs slot_list_getitem.lookup (wpAny_getItem_list hl h0 hhi (by simpa using hx) h) hs
end
def wd : Bool → Str
  | true => Str.ofString "add"
  | false => Str.ofString "sub"
def RoomB (N0 : Nat) (P : Params) (S : Addr) (ρ : Rm) (k : Int) (b : Bool) (news : List (Addr × Obj)) : Prop := ∃ t t', Okt t N0 ∧ Okt t' N0 ∧ RmIn P S ρ k [.str (wd b) t, .str (wd (!b)) t'] news
structure RoomsIn (N0 : Nat) (P : Params) (S : Addr) (gs : List Rm) (k : Int) (bs : List Bool) (news : List (Addr × Obj)) : Prop where
  len : gs.length = bs.length
  all : ∀ (i : Nat) (ρ : Rm) (b : Bool), gs[i]? = some ρ → bs[i]? = some b → RoomB N0 P S ρ k b news
def Dst (gs : List Rm) : Prop := ∀ (i j : Nat) (ρ ρ' : Rm), gs[i]? = some ρ → gs[j]? = some ρ' → i ≠ j → ρ.pb ≠ ρ'.pb ∧ ρ.d ≠ ρ'.d
theorem RoomsIn.turn {N0 : Nat} {P : Params} {S : Addr} {gs : List Rm} {k : Int} {bs : List Bool} {h₀ h : Heap} {L : Addr} {news news' : List (Addr × Obj)} {i : Nat} {ρ : Rm} {b b' : Bool} (hR : RoomsIn N0 P S gs k bs news) (N : News h₀ L h news) (hi : gs[i]? = some ρ) (hb : bs[i]? = some b)
    (hk : Keep [ρ.pb] news news') (hB : RoomB N0 P S ρ k b' news') (hd : Dst gs) : RoomsIn N0 P S gs k (bs.set i b') news' := by
  refine ⟨by rw [List.length_set]; exact hR.len, fun j ρ' c hj hc => ?_⟩
  by_cases e : j = i
  · subst e
    rw [hi] at hj
    cases hj
    rw [List.getElem?_set_self (by have := List.getElem?_eq_some_iff.mp hb; exact this.1)] at hc
    cases hc
    exact hB
  · rw [List.getElem?_set_ne (Ne.symm e)] at hc
    obtain ⟨t, t', ho, ho', R⟩ := hR.all j ρ' c hj hc
    obtain ⟨u, u', _, _, Ri⟩ := hR.all i ρ b hi hb
    obtain ⟨np, mpb⟩ := Ri.hpb
    obtain ⟨tl, md⟩ := R.hd
    exact ⟨t, t', ho, ho', R.keep hk (by simpa using apart N R.hr mpb (by simp)) (by simpa using apart N md mpb (by simp)) (by simpa using (hd j i ρ' ρ hj hi e).1)⟩
theorem RoomsIn.more {N0 : Nat} {P : Params} {S : Addr} {gs : List Rm} {k : Int} {bs : List Bool} {news : List (Addr × Obj)} {q : Addr × Obj} (hR : RoomsIn N0 P S gs k bs news) : RoomsIn N0 P S gs k bs (q :: news) :=
  ⟨hR.len, fun i ρ b hi hb => (hR.all i ρ b hi hb).elim fun t q => q.elim fun t' r => ⟨t, t', r.1, r.2.1, r.2.2.mono fun p hp => .tail _ hp⟩⟩
def walkF : Nat → List Bool → Int → Int → List Bool × Int × Int
  | 0, bs, pl, st => (bs, pl, st)
  | n + 1, bs, pl, st => if 0 < pl ∧ pl < (bs.length : Int) + 1 ∧ st < 20 then walkF n (bs.set (pl - 1).toNat (!(bs.getD (pl - 1).toNat false))) (if bs.getD (pl - 1).toNat false then pl + 1 else pl - 1) (st + 1) else (bs, pl, st)
theorem walkF_stop {n : Nat} {bs : List Bool} {pl st : Int} (h : ¬ (0 < pl ∧ pl < (bs.length : Int) + 1 ∧ st < 20)) : walkF n bs pl st = (bs, pl, st) := by
  cases n with
  | zero => rfl
  | succ n => rw [walkF, if_neg h]
section
variable {prog : Program} {w : World} {p : Program} {loose : List Str} {mean : ExcName → Option Value} {mg mb : Str → Option Value}
    {dp un : Nat} {gd : Option (List Code)} {cn : Str} {cs : Scope} {a : Addr} {ccd : Value} {cl : List (Str × Addr)} {outer : List Env} {A₀ : Around} {base h₀ : Heap} {L : Addr} {m : Str → Option Value} {s : Shared} {Q E : Value → Shared → Prop} {news : List (Addr × Obj)}
theorem getitem_t {D : Addr} {vs : List Value} {i : Int} {v : Value} {u : Tok} {nD : Nat}
    (B : Below A₀ base outer h₀) (F : Fr h₀ L s.heap m) (X : (Mine.hd.heap_39 w.params).In h₀) (N : News h₀ L s.heap news) (T : Top p loose mean mg mb h₀) (hk : cs.kind = .function)
    (hm : (D, listOf vs.toArray nD) ∈ news) (h0 : 0 ≤ i) (hhi : i < 1000) (hx : vs[i.toNat]? = some v)
    (hdp : dp + 1 < recursionLimit) (hun : un + 8 < cLine)
    (hret : ∀ (h' : Heap) (tk' : Nat), Fr h₀ L h' m → News h₀ L h' news → Q v { s with heap := h', toks := tk' }) :
    wpAny (model prog w) (ktrTop dp un gd cn cs L a ccd cl outer) (call (.ref 98) [.ref D, .int i u]) Q E s := by
  k_with_none
  w_top off
  k_with "call builtin:list.pop" => (k_here; (with_reducible show wpAny _ _ (call (Value.builtin _) [Value.ref _, Value.int 0 _]) _ _ _); k_dflt (refine pop0 (by k_asm) (by k_asm) (by k_upd) (by assumption) ?_); intro _ _ _)
  k_with "truthy ref" => (k_here; k_dflt (refine truthyCons (by k_asm) (by k_mem) (by assumption) ?_); (try rw [if_pos rfl]))
  k_with "call builtin:len" => (k_here; (with_reducible show wpAny _ _ (call (Value.builtin "len") [Value.ref _]) _ _ _); k_dflt (refine lenLed (by k_asm) (by k_mem) (by first | assumption | (simp only [List.length_cons, List.length_nil]; omega)) ?_))
  k_with "call builtin:iter" => (k_here; (with_reducible show wpAny _ _ (call (Value.builtin "iter") [Value.ref _, Value.str _ _]) _ _ _); k_dflt (refine iter2 (by k_asm) (by k_asm) (by k_mem) ?_); intro _ _ _ _ lz9; (try k_lt lz9))
  k_with "exec For Name Name cons nil" => (k_here; k_dflt (refine owit_for ?_))
  k_with "pyIter ref" => ((with_reducible show wpAny _ _ (pyIter (Value.ref _)) (OwitAt _ _ _ _ _ _ _ _) _ _); k_here; k_dflt (refine iter_self (by exact News.get (by k_asm) (by k_mem)) ?_))
  k_with "OwitRest" => refine hold ?_
  refine wpAny_call ?_
  k_dflt cell_enter
  k_steps
  refine itemLed (by k_asm) hm h0 (by omega) hx ?_
  k_steps
  exact hret _ _ (by k_asm) (by k_asm)
end
def isFunW : PySem.Stmt := (PySem.Challenge.pw_pg0063_01.main.body.find? (isFun (Str.ofString "_law_walk"))).getD default
def whileBody : PySem.Stmt → List PySem.Stmt
  | .While _ b _ _ => b
  | _ => []
def walkB : List PySem.Stmt := whileBody ((stmtsOf isFunW).getD 1 default)
abbrev walkEnv (L : Addr) : Env := envOf (Str.ofString "_law_walk") (scopeOf isFunW) L 131 (.ref 130)
/-- how things stand while a walker goes -/
structure WalkJ (N0 : Nat) (P : Params) (S : Addr) (gs : List Rm) (k : Int) (Ra : Addr) (nR : Nat) (news : List (Addr × Obj)) (W : List Bool × Int × Int) (n : Nat) (m₁ : Str → Option Value) (news₁ : List (Addr × Obj)) (bs₁ : List Bool) (pl₁ st₁ : Int) (tp₁ ts₁ : Tok) : Prop where
  e1 : walkF n bs₁ pl₁ st₁ = W
  e2 : st₁ = 20 - (n : Int)
  mr : m₁ (Str.ofString "rooms") = some (.ref Ra)
  mp : m₁ (Str.ofString "place") = some (.int pl₁ tp₁)
  ms : m₁ (Str.ofString "steps") = some (.int st₁ ts₁)
  R : RoomsIn N0 P S gs k bs₁ news₁
  hRa : (Ra, listOf (gs.map fun ρ => Value.ref ρ.r).toArray nR) ∈ news₁
  K : Keep (gs.map (·.pb)) news news₁
theorem WalkJ.fr {N0 : Nat} {P : Params} {S : Addr} {gs : List Rm} {k : Int} {Ra : Addr} {nR : Nat} {news : List (Addr × Obj)} {W : List Bool × Int × Int} {n : Nat} {m₁ : Str → Option Value} {news₁ : List (Addr × Obj)} {bs₁ : List Bool} {pl₁ st₁ : Int} {tp₁ ts₁ : Tok} {h₀ h : Heap} {L : Addr}
    (J : WalkJ N0 P S gs k Ra nR news W n m₁ news₁ bs₁ pl₁ st₁ tp₁ ts₁) (F : Fr h₀ L h m₁) : Fr h₀ L h (fun z => if z = Str.ofString "rooms" then some (.ref Ra) else if z = Str.ofString "place" then some (.int pl₁ tp₁) else if z = Str.ofString "steps" then some (.int st₁ ts₁) else m₁ z) := frMap F (fun z => by
      by_cases h1 : z = Str.ofString "rooms"
      · rw [if_pos h1, h1, J.mr]
      · rw [if_neg h1]
        by_cases h2 : z = Str.ofString "place"
        · rw [if_pos h2, h2, J.mp]
        · rw [if_neg h2]
          by_cases h3 : z = Str.ofString "steps"
          · rw [if_pos h3, h3, J.ms]
          · rw [if_neg h3])
section
variable {prog : Program} {w : World} {p : Program} {loose : List Str} {mean : ExcName → Option Value} {mg mb : Str → Option Value}
    {dp un : Nat} {gd : Option (List Code)} {cn : Str} {cs : Scope} {a : Addr} {ccd : Value} {cl : List (Str × Addr)} {outer : List Env} {A₀ : Around} {base h₀ : Heap} {L : Addr} {m : Str → Option Value} {s : Shared} {Q E : Value → Shared → Prop} {news : List (Addr × Obj)}
theorem walk_step {N0 : Nat} {S Ra L' : Addr} {g : Heap} {gs : List Rm} {k pl st : Int} {bs : List Bool} {b : Bool} {i : Nat} {ρ : Rm} {tp ts : Tok} {nR : Nat} {Qf : Flow → Shared → Prop}
    (B : Below (ktrTop dp un gd cn cs L a ccd cl outer) base (envX cn cs L a ccd cl :: outer) g) (X : (Mine.hd.heap_39 w.params).In g) (T : Top p loose mean mg mb g)
    (F : Fr g L' s.heap (fun z => if z = Str.ofString "rooms" then some (.ref Ra) else if z = Str.ofString "place" then some (.int pl tp) else if z = Str.ofString "steps" then some (.int st ts) else m z)) (N : News g L' s.heap news)
    (hi : pl = (i : Int) + 1) (hi2 : i < 100) (hst2 : st < 20) (hgi : gs[i]? = some ρ) (hbi : bs[i]? = some b) (R : RoomsIn N0 w.params S gs k bs news) (hRa : (Ra, listOf (gs.map fun ρ => Value.ref ρ.r).toArray nR) ∈ news) (hd : Dst gs) (hne : ρ.pb ≠ Ra)
    (hdp : dp + 2 < recursionLimit) (hun : un + 16 < cLine)
    (next : ∀ (h' : Heap) (tk' : Nat) (m' : Str → Option Value) (news' : List (Addr × Obj)) (tp' ts' : Tok), Fr g L' h' m' → m' (Str.ofString "rooms") = some (.ref Ra) → m' (Str.ofString "place") = some (.int (if b = true then pl + 1 else pl - 1) tp') → m' (Str.ofString "steps") = some (.int (st + 1) ts') →
      News g L' h' news' → RoomsIn N0 w.params S gs k (bs.set i (!b)) news' → (Ra, listOf (gs.map fun ρ => Value.ref ρ.r).toArray nR) ∈ news' → Keep [ρ.pb] news news' → Qf .next { s with heap := h', toks := tk' }) :
    wpAny (model prog w) ((ktrTop dp un gd cn cs L a ccd cl outer).deeper (walkEnv L')) (execs walkB (walkEnv L')) Qf E s := by
  k_with_none
  w_top off
  k_with "call builtin:list.pop" => (k_here; (with_reducible show wpAny _ _ (call (Value.builtin _) [Value.ref _, Value.int 0 _]) _ _ _); k_dflt (refine pop0 (by k_asm) (by k_asm) (by k_upd) (by assumption) ?_); intro _ _ _)
  k_with "truthy ref" => (k_here; k_dflt (refine truthyCons (by k_asm) (by k_mem) (by assumption) ?_); (try rw [if_pos rfl]))
  k_with "call builtin:len" => (k_here; (with_reducible show wpAny _ _ (call (Value.builtin "len") [Value.ref _]) _ _ _); k_dflt (refine lenLed (by k_asm) (by k_mem) (by first | assumption | (simp only [List.length_cons, List.length_nil]; omega)) ?_))
  k_with "call builtin:iter" => (k_here; (with_reducible show wpAny _ _ (call (Value.builtin "iter") [Value.ref _, Value.str _ _]) _ _ _); k_dflt (refine iter2 (by k_asm) (by k_asm) (by k_mem) ?_); intro _ _ _ _ lz9; (try k_lt lz9))
  k_with "exec For Name Name cons nil" => (k_here; k_dflt (refine owit_for ?_))
  k_with "pyIter ref" => ((with_reducible show wpAny _ _ (pyIter (Value.ref _)) (OwitAt _ _ _ _ _ _ _ _) _ _); k_here; k_dflt (refine iter_self (by exact News.get (by k_asm) (by k_mem)) ?_))
  k_with "OwitRest" => refine hold ?_
  k_with "ite" => first | refine iteT (by with_reducible assumption) ?_ | refine iteF (by with_reducible assumption) ?_
  k_with "call builtin:len" => (k_here; (with_reducible show wpAny _ _ (call (Value.builtin "len") [Value.ref _]) _ _ _); k_dflt (refine lenLed (by k_asm) (by assumption) (by assumption) ?_))
  k_with "call ref" => (k_dflt (show wpAny _ _ (call (Value.ref 42) [Value.ref _]) _ _ _); refine hold ?_)
  k_with "call ref" => (k_dflt (show wpAny _ _ (call (Value.ref 49) [Value.ref _, _]) _ _ _); refine hold ?_)
  k_with "call ref" => (k_dflt (show wpAny _ _ (call (Value.ref 98) [Value.ref _, Value.int _ _]) _ _ _); refine hold ?_)
  k_with "call ref" => (k_dflt (show wpAny _ _ (call (Value.ref 63) [Value.int _ _, Value.int _ _]) _ _ _); k_dflt (refine lt_t (by k_asm) (by k_asm) (by k_asm) (by k_asm) (by k_asm) (by rfl) (by ktr_room) (by ktr_units) ?_); intro _ _ _ _)
  k_with "call ref" => (k_dflt (show wpAny _ _ (call (Value.ref 70) [Value.str _ _, Value.str _ _]) _ _ _); k_dflt (refine eq_t (by k_asm) (by k_asm) (by k_asm) (by k_asm) (by k_asm) (by rfl) (by ktr_room) (by ktr_units) ?_); intro _ _ _ _)
  k_with "call ref" => (k_dflt (show wpAny _ _ (call (Value.ref 77) [Value.int _ _, Value.int _ _]) _ _ _); k_dflt (refine add_t (by k_asm) (by k_asm) (by k_asm) (by k_asm) (by k_asm) (by rfl) (by ktr_room) (by ktr_units) ?_); intro _ _ _ _ _)
  k_with "call ref" => (k_dflt (show wpAny _ _ (call (Value.ref 84) [Value.int _ _, Value.int _ _]) _ _ _); k_dflt (refine sub_t (by k_asm) (by k_asm) (by k_asm) (by k_asm) (by k_asm) (by rfl) (by ktr_room) (by ktr_units) ?_); intro _ _ _ _ _)
  k_with "exec While BoolOp cons nil" => refine hold ?_
  unfold walkEnv
  rw [show walkB = _ :: _ from rfl, show scopeOf isFunW = ⟨_, _, _, _, _⟩ from rfl]
  obtain ⟨t, t', hot, hot', Rρ⟩ := R.all i ρ b hgi hbi
  have hiz : (pl - 1).toNat = i := by omega
  have hix : (gs.map fun ρ => Value.ref ρ.r)[(pl - 1).toNat]? = some (.ref ρ.r) := by rw [hiz, List.getElem?_map, hgi]; rfl
  have hmr := Rρ.hr
  obtain ⟨tl, hmd⟩ := Rρ.hd
  have hne' : (Ra, listOf (gs.map fun ρ => Value.ref ρ.r).toArray nR).1 ∉ [ρ.pb] := by simpa using Ne.symm hne
  have Nh := Hold.out N
  have next' := hold next
  clear next
  k_steps
  refine Hold.out (getitem_t (by k_asm) (by k_asm) (by k_asm) (by k_asm) (by k_asm) (by rfl) hRa (by omega) (by omega) hix (by ktr_room) (by ktr_units) ?_)
  intro h2 tk2 F3 N3
  k_steps
  refine Hold.out (get_k (by k_asm) (by k_asm) (by k_asm) (by k_asm) (by k_asm) (by rfl) Rρ (by simp) (by ktr_room) (by ktr_units) ?_)
  intro h3 tk3 news3 F4 N4 K4 R4
  have hmr4 := R4.hr
  obtain ⟨tl4, hmd4⟩ := R4.hd
  k_steps
  refine Hold.out (push_k (by k_asm) (by k_asm) (by k_asm) (by k_asm) (by k_asm) (by rfl) R4 (by simp) (by ktr_room) (by ktr_units) ?_)
  intro h5 tk5 news5 F5 N5 K5 R5
  have hRa5 := K5 _ (K4 _ hRa hne') hne'
  have K45 : Keep [ρ.pb] news news5 := fun p hp hn => K5 p (K4 p hp hn) hn
  have RR : RoomsIn N0 w.params S gs k (bs.set i (!b)) news5 := R.turn (id Nh : News _ _ _ _) hgi hbi K45 ⟨_, _, hot', hot, by cases b <;> exact R5⟩ hd
  cases b with
  | true =>
    k_steps
    exact Hold.out next' _ _ _ _ _ _ (by k_asm) rfl rfl rfl (by k_asm) RR hRa5 K45
  | false =>
    k_steps
    exact Hold.out next' _ _ _ _ _ _ (by k_asm) rfl rfl rfl (by k_asm) RR hRa5 K45
end
section
variable {prog : Program} {w : World} {p : Program} {loose : List Str} {mean : ExcName → Option Value} {mg mb : Str → Option Value}
    {dp un : Nat} {gd : Option (List Code)} {cn : Str} {cs : Scope} {a : Addr} {ccd : Value} {cl : List (Str × Addr)} {outer : List Env} {A₀ : Around} {base h₀ : Heap} {L : Addr} {m : Str → Option Value} {s : Shared} {Q E : Value → Shared → Prop} {news : List (Addr × Obj)}
theorem walk_t {N0 : Nat} {S Ra : Addr} {gs : List Rm} {k pl : Int} {bs : List Bool} {tp : Tok} {nR : Nat}
    (B : Below A₀ base outer h₀) (F : Fr h₀ L s.heap m) (X : (Mine.hd.heap_39 w.params).In h₀) (N : News h₀ L s.heap news) (T : Top p loose mean mg mb h₀) (hk : cs.kind = .function)
    (hR : RoomsIn N0 w.params S gs k bs news) (hRa : (Ra, listOf (gs.map fun ρ => Value.ref ρ.r).toArray nR) ∈ news) (hgs : gs.length ≤ 100) (hd : Dst gs) (hne : ∀ ρ ∈ gs, ρ.pb ≠ Ra)
    (hdp : dp + 2 < recursionLimit) (hun : un + 16 < cLine)
    (hret : ∀ (l : Addr) (t1 t2 : Tok) (h' : Heap) (tk' : Nat) (news' : List (Addr × Obj)), Fr h₀ L h' m → News h₀ L h' news' → Keep (gs.map (·.pb)) news news' → RoomsIn N0 w.params S gs k (walkF 20 bs pl 0).1 news' →
      (l, listOf #[.int (walkF 20 bs pl 0).2.1 t1, .int (walkF 20 bs pl 0).2.2 t2] 0) ∈ news' → Q (.ref l) { s with heap := h', toks := tk' }) :
    wpAny (model prog w) (ktrTop dp un gd cn cs L a ccd cl outer) (call (.ref 131) [.ref Ra, .int pl tp]) Q E s := by
  k_with_none
  w_top off
  k_with "call builtin:list.pop" => (k_here; (with_reducible show wpAny _ _ (call (Value.builtin _) [Value.ref _, Value.int 0 _]) _ _ _); k_dflt (refine pop0 (by k_asm) (by k_asm) (by k_upd) (by assumption) ?_); intro _ _ _)
  k_with "truthy ref" => (k_here; k_dflt (refine truthyCons (by k_asm) (by k_mem) (by assumption) ?_); (try rw [if_pos rfl]))
  k_with "call builtin:len" => (k_here; (with_reducible show wpAny _ _ (call (Value.builtin "len") [Value.ref _]) _ _ _); k_dflt (refine lenLed (by k_asm) (by k_mem) (by first | assumption | (simp only [List.length_cons, List.length_nil]; omega)) ?_))
  k_with "call builtin:iter" => (k_here; (with_reducible show wpAny _ _ (call (Value.builtin "iter") [Value.ref _, Value.str _ _]) _ _ _); k_dflt (refine iter2 (by k_asm) (by k_asm) (by k_mem) ?_); intro _ _ _ _ lz9; (try k_lt lz9))
  k_with "exec For Name Name cons nil" => (k_here; k_dflt (refine owit_for ?_))
  k_with "pyIter ref" => ((with_reducible show wpAny _ _ (pyIter (Value.ref _)) (OwitAt _ _ _ _ _ _ _ _) _ _); k_here; k_dflt (refine iter_self (by exact News.get (by k_asm) (by k_mem)) ?_))
  k_with "OwitRest" => refine hold ?_
  k_with "ite" => first | refine iteT (by with_reducible assumption) ?_ | refine iteF (by with_reducible assumption) ?_
  k_with "call builtin:len" => (k_here; (with_reducible show wpAny _ _ (call (Value.builtin "len") [Value.ref _]) _ _ _); k_dflt (refine lenLed (by k_asm) (by assumption) (by assumption) ?_))
  k_with "call ref" => (k_dflt (show wpAny _ _ (call (Value.ref 42) [Value.ref _]) _ _ _); refine hold ?_)
  k_with "call ref" => (k_dflt (show wpAny _ _ (call (Value.ref 49) [Value.ref _, _]) _ _ _); refine hold ?_)
  k_with "call ref" => (k_dflt (show wpAny _ _ (call (Value.ref 98) [Value.ref _, Value.int _ _]) _ _ _); refine hold ?_)
  k_with "call ref" => (k_dflt (show wpAny _ _ (call (Value.ref 63) [Value.int _ _, Value.int _ _]) _ _ _); k_dflt (refine lt_t (by k_asm) (by k_asm) (by k_asm) (by k_asm) (by k_asm) (by rfl) (by ktr_room) (by ktr_units) ?_); intro _ _ _ _)
  k_with "call ref" => (k_dflt (show wpAny _ _ (call (Value.ref 70) [Value.str _ _, Value.str _ _]) _ _ _); k_dflt (refine eq_t (by k_asm) (by k_asm) (by k_asm) (by k_asm) (by k_asm) (by rfl) (by ktr_room) (by ktr_units) ?_); intro _ _ _ _)
  k_with "call ref" => (k_dflt (show wpAny _ _ (call (Value.ref 77) [Value.int _ _, Value.int _ _]) _ _ _); k_dflt (refine add_t (by k_asm) (by k_asm) (by k_asm) (by k_asm) (by k_asm) (by rfl) (by ktr_room) (by ktr_units) ?_); intro _ _ _ _ _)
  k_with "call ref" => (k_dflt (show wpAny _ _ (call (Value.ref 84) [Value.int _ _, Value.int _ _]) _ _ _); k_dflt (refine sub_t (by k_asm) (by k_asm) (by k_asm) (by k_asm) (by k_asm) (by rfl) (by ktr_room) (by ktr_units) ?_); intro _ _ _ _ _)
  k_with "exec While BoolOp cons nil" => refine hold ?_
  k_with "execs cons" => (k_dflt (show wpAny _ _ (execs (Stmt.Assign [Expr.Name (Str.ofString "room") _] _ _ :: _) _) _ _ _); refine hold ?_)
  refine wpAny_call ?_
  k_dflt cell_enter
  k_steps
  have hlenR : (gs.map fun ρ => Value.ref ρ.r).length ≤ 10000 := by rw [List.length_map]; omega
  refine Hold.out (While_inv (n₀ := 20) (fun n m₁ news₁ => ∃ bs₁ pl₁ st₁ tp₁ ts₁, WalkJ N0 w.params S gs k Ra nR news (walkF 20 bs pl 0) n m₁ news₁ bs₁ pl₁ st₁ tp₁ ts₁) (by k_asm) (by k_asm) ⟨bs, pl, 0, _, _, ⟨rfl, by decide, rfl, rfl, rfl, hR, hRa, fun p hp _ => hp⟩⟩ ?_)
  rintro n m₁ news₁ h₁ tk₁ F₁ N₁ ⟨bs₁, pl₁, st₁, tp₁, ts₁, J⟩
  have F2 := J.fr F₁
  clear F₁
  have R₁ := J.R
  have hRa₁ := J.hRa
  have e2 := J.e2
  have hl : ((gs.map fun ρ => Value.ref ρ.r).length : Int) = (bs₁.length : Int) := by rw [List.length_map, R₁.len]
  have out : ¬ (0 < pl₁ ∧ pl₁ < (bs₁.length : Int) + 1 ∧ st₁ < 20) → walkF 20 bs pl 0 = (bs₁, pl₁, st₁) := fun hc => J.e1 ▸ walkF_stop hc
  by_cases c1 : 0 < pl₁
  · have c1' : decide (0 < pl₁) = true := decide_eq_true c1
    by_cases c2 : pl₁ < ((gs.map fun ρ => Value.ref ρ.r).length : Int) + 1
    · have c2' : decide (pl₁ < ((gs.map fun ρ => Value.ref ρ.r).length : Int) + 1) = true := decide_eq_true c2
      by_cases c3 : st₁ < 20
      · have c3' : decide (st₁ < 20) = true := decide_eq_true c3
        have hi : pl₁ = (((pl₁ - 1).toNat : Nat) : Int) + 1 := by omega
        have hlt : (pl₁ - 1).toNat < bs₁.length := by omega
        have hltg : (pl₁ - 1).toNat < gs.length := by rw [R₁.len]; exact hlt
        k_steps
        refine Hold.out (walk_step (by k_asm) (by k_asm) (by k_asm) (by k_asm) (by k_asm) hi (by omega) c3 (List.getElem?_eq_getElem hltg) (List.getElem?_eq_getElem hlt) R₁ hRa₁ hd (hne _ (List.getElem_mem hltg)) hdp hun ?_)
        intro h' tk' m' news' tp' ts' F' mr mp ms N' R' hRa' K'
        have hgd : bs₁.getD (pl₁ - 1).toNat false = bs₁[(pl₁ - 1).toNat] := by rw [List.getD_eq_getElem?_getD, List.getElem?_eq_getElem hlt]; rfl
        have e1 := J.e1
        have hn : n = (n - 1) + 1 := by omega
        rw [hn, walkF, if_pos ⟨c1, hl ▸ c2, c3⟩, hgd] at e1
        exact WhileStep.intro F' N' (by omega) ⟨_, _, _, _, _, ⟨e1, by omega, mr, mp, ms, R', hRa', fun p hp hn => K' p (J.K p hp hn) (fun q => hn ((List.mem_singleton.mp q) ▸ List.mem_map_of_mem (f := fun ρ : Rm => ρ.pb) (List.getElem_mem hltg)))⟩⟩
      · have c3' : decide (st₁ < 20) = false := decide_eq_false c3
        rw [out fun q => c3 q.2.2] at hret
        k_steps
        exact hret _ _ _ _ _ _ (by k_asm) (by k_asm) (fun p hp hn => .tail _ (J.K p hp hn)) (R₁.more) (.head _)
    · have c2' : decide (pl₁ < ((gs.map fun ρ => Value.ref ρ.r).length : Int) + 1) = false := decide_eq_false c2
      rw [out fun q => c2 (hl ▸ q.2.1)] at hret
      k_steps
      exact hret _ _ _ _ _ _ (by k_asm) (by k_asm) (fun p hp hn => .tail _ (J.K p hp hn)) (R₁.more) (.head _)
  · have c1' : decide (0 < pl₁) = false := decide_eq_false c1
    rw [out fun q => c1 q.1] at hret
    k_steps
    exact hret _ _ _ _ _ _ (by k_asm) (by k_asm) (fun p hp hn => .tail _ (J.K p hp hn)) (R₁.more) (.head _)
end
/-! part PgM -/
section
variable {prog : Program} {w : World} {A : Around} {s : Shared} {h₀ : Heap} {L : Addr} {m : Str → Option Value} {env : Env} {elt : PySem.Expr} {x : Str} {scope : Scope} {cl : List (Str × Addr)} {S : List (Addr × Obj) → Prop} {P : Nat → Value → Prop} {Fin : List Value → List (Addr × Obj) → Prop}
theorem compInv {n : Nat} (J : Nat → List Value → List (Addr × Obj) → Prop)
    (turn : ∀ i v ys news I oI C oC D m₂ h tk (E' : Value → Shared → Prop), i < n → P i v → J i ys news → LCg.NsObj oC m₂ → m₂ x = some v → Fr h₀ L h m → News h₀ L h ((I, oI) :: (C, oC) :: (D, LCg.lst ys) :: news) → LCg.Off3 I C D news → ((@Ne Nat I C) ∧ (@Ne Nat I D) ∧ (@Ne Nat C D)) →
      wpAny (model prog w) A (eval elt (compEnvC scope cl C env)) (LCg.CompEnd h₀ L m { s with heap := h, toks := tk } I oI C oC D (LCg.lst ys) S (fun y news' => J (i + 1) (ys ++ [y]) news')) E' { s with heap := h, toks := tk })
    (fin : ∀ ys news, J n ys news → Fin ys news) : ∀ k i ys news, i + k = n → J i ys news → LCg.CompRest prog w A h₀ L m env elt x scope cl s S P Fin k i ys news
  | 0, i, ys, news, e, hJ => fin ys news (by have : i = n := e; rw [← this]; exact hJ)
  | k + 1, i, ys, news, e, hJ => fun v I oI C oC D m₂ h tk E' hP hC hx F N off ne =>
    wpAny_mono (turn i v ys news I oI C oC D m₂ h tk E' (by omega) hP hJ hC hx F N off ne) (fun y s₂ h₂ => by
      obtain ⟨h', tk', news', e', F', N', off', hS, hj⟩ := h₂
      exact ⟨h', tk', news', e', F', N', off', hS, compInv J turn fin k (i + 1) (ys ++ [y]) news' (by omega) hj⟩) fun _ _ z => z
end
structure Ws (vs : List Value) (bs : List Bool) : Prop where
  len : vs.length = bs.length
  all : ∀ (i : Nat) (v : Value) (b : Bool), vs[i]? = some v → bs[i]? = some b → ∃ t, v = .str (wd b) t
structure LinesIn (ys : List Value) (bs : List Bool) (news : List (Addr × Obj)) : Prop where
  len : ys.length = bs.length
  all : ∀ (i : Nat) (y : Value) (b : Bool), ys[i]? = some y → bs[i]? = some b → ∃ l n t t', y = .ref l ∧ (l, listOf #[.str (wd b) t, .str (wd (!b)) t'] n) ∈ news
theorem LinesIn.mono {ys : List Value} {bs : List Bool} {news news' : List (Addr × Obj)} (h : LinesIn ys bs news) (hs : ∀ p ∈ news, p ∈ news') : LinesIn ys bs news' :=
  ⟨h.len, fun i y b hy hb => by obtain ⟨l, n, t, t', e, hm⟩ := h.all i y b hy hb; exact ⟨l, n, t, t', e, hs _ hm⟩⟩
theorem LinesIn.snoc {ys : List Value} {bs : List Bool} {b : Bool} {l : Addr} {n : Nat} {t t' : Tok} {news : List (Addr × Obj)} (h : LinesIn ys bs news) (hm : (l, listOf #[.str (wd b) t, .str (wd (!b)) t'] n) ∈ news) : LinesIn (ys ++ [.ref l]) (bs ++ [b]) news :=
  ⟨by simp [h.len], fun i y c hy hc => by
    by_cases hi : i < ys.length
    · rw [List.getElem?_append_left hi] at hy
      rw [List.getElem?_append_left (h.len ▸ hi)] at hc
      exact h.all i y c hy hc
    · rw [List.getElem?_append_right (by omega)] at hy
      rw [List.getElem?_append_right (by rw [← h.len]; omega), ← h.len] at hc
      cases e : i - ys.length with
      | zero => rw [e] at hy hc; simp only [List.getElem?_cons_zero, Option.some.injEq] at hy hc; subst hy; subst hc; exact ⟨l, n, t, t', rfl, hm⟩
      | succ j => rw [e] at hy; simp at hy⟩
theorem mem4 {α : Type} {a b c d x : α} {l : List α} (h : x ∈ a :: b :: c :: d :: l) : x ∈ d :: a :: b :: c :: l := by
  rcases List.mem_cons.mp h with rfl | h
  · exact .tail _ (.head _)
  rcases List.mem_cons.mp h with rfl | h
  · exact .tail _ (.tail _ (.head _))
  rcases List.mem_cons.mp h with rfl | h
  · exact .tail _ (.tail _ (.tail _ (.head _)))
  rcases List.mem_cons.mp h with rfl | h
  · exact .head _
  · exact .tail _ (.tail _ (.tail _ (.tail _ h)))
section
variable {prog : Program} {w : World} {p : Program} {loose : List Str} {mean : ExcName → Option Value} {mg mb : Str → Option Value}
    {dp un : Nat} {gd : Option (List Code)} {cn : Str} {cs : Scope} {a : Addr} {ccd : Value} {cl : List (Str × Addr)} {outer : List Env} {A₀ : Around} {base h₀ : Heap} {L : Addr} {m : Str → Option Value} {s : Shared} {Q E : Value → Shared → Prop} {news : List (Addr × Obj)}
theorem lines_t {Fa : Addr} {vs : List Value} {bs : List Bool} {nF : Nat}
    (B : Below A₀ base outer h₀) (F : Fr h₀ L s.heap m) (X : (Mine.hd.heap_39 w.params).In h₀) (N : News h₀ L s.heap news) (T : Top p loose mean mg mb h₀) (hk : cs.kind = .function)
    (hF : (Fa, listOf vs.toArray nF) ∈ news) (hW : Ws vs bs) (hlen : vs.length ≤ 1000)
    (hdp : dp + 2 < recursionLimit) (hun : un + 16 < cLine)
    (hret : ∀ (D : Addr) (ys : List Value) (h' : Heap) (tk' : Nat) (news' : List (Addr × Obj)), Fr h₀ L h' m → News h₀ L h' ((D, LCg.lst ys) :: news') → (∀ q ∈ news, q ∈ news') → LinesIn ys bs news' → LCg.Off1 D news' → Q (.ref D) { s with heap := h', toks := tk' }) :
    wpAny (model prog w) (ktrTop dp un gd cn cs L a ccd cl outer) (call (.ref 117) [.ref Fa]) Q E s := by
  k_with_none
  w_top off
  k_with "call builtin:list.pop" => (k_here; (with_reducible show wpAny _ _ (call (Value.builtin _) [Value.ref _, Value.int 0 _]) _ _ _); k_dflt (refine pop0 (by k_asm) (by k_asm) (by k_upd) (by assumption) ?_); intro _ _ _)
  k_with "truthy ref" => (k_here; k_dflt (refine truthyCons (by k_asm) (by k_mem) (by assumption) ?_); (try rw [if_pos rfl]))
  k_with "call builtin:len" => (k_here; (with_reducible show wpAny _ _ (call (Value.builtin "len") [Value.ref _]) _ _ _); k_dflt (refine lenLed (by k_asm) (by k_mem) (by first | assumption | (simp only [List.length_cons, List.length_nil]; omega)) ?_))
  k_with "call builtin:iter" => (k_here; (with_reducible show wpAny _ _ (call (Value.builtin "iter") [Value.ref _, Value.str _ _]) _ _ _); k_dflt (refine iter2 (by k_asm) (by k_asm) (by k_mem) ?_); intro _ _ _ _ lz9; (try k_lt lz9))
  k_with "exec For Name Name cons nil" => (k_here; k_dflt (refine owit_for ?_))
  k_with "pyIter ref" => ((with_reducible show wpAny _ _ (pyIter (Value.ref _)) (OwitAt _ _ _ _ _ _ _ _) _ _); k_here; k_dflt (refine iter_self (by exact News.get (by k_asm) (by k_mem)) ?_))
  k_with "OwitRest" => refine hold ?_
  k_with "ite" => first | refine iteT (by with_reducible assumption) ?_ | refine iteF (by with_reducible assumption) ?_
  k_with "CompSrc" => refine hold ?_
  refine wpAny_call ?_
  k_dflt cell_enter
  k_steps
  refine Hold.out (LCg.CompSrc.ledger (by rfl) (by k_asm) (by k_asm) hF (by rw [List.size_toArray, sizeLine_eq]; omega) (fun g => ?_))
  rw [List.size_toArray]
  refine compInv (n := vs.length) (fun i ys news₁ => (∀ q ∈ news, q ∈ news₁) ∧ LinesIn ys (bs.take i) news₁) ?_ ?_ vs.length 0 [] news (by omega) ⟨fun _ h => h, ⟨by simp, fun i y b hy => by simp at hy⟩⟩
  · intro i v ys news₁ I oI C oC D m₂ h tk E' hi hP hJ hC hx F9 N9 off9 ne9
    obtain ⟨hs, hL⟩ := hJ
    have hbl : i < bs.length := hW.len ▸ hi
    obtain ⟨t, rfl⟩ := hW.all i v bs[i] (by simpa using hP) (List.getElem?_eq_getElem hbl)
    have htk : bs.take (i + 1) = bs.take i ++ [bs[i]] := by rw [List.take_add_one, List.getElem?_eq_getElem hbl]; rfl
    rw [htk]
    generalize bs[i] = b at *
    cases b with
    | true =>
      k_steps
      (rename _ ∧ _ ∧ _ ∧ AllLt _ _ => l9)
      refine LCg.CompEnd.intro (by assumption) (by assumption) (_ :: news₁) (fun p hp => mem4 hp) ⟨⟨by k_ne, by k_ne, by k_ne⟩, off9⟩ (.inr ⟨_, .tail _ (hs _ hF), rfl, _, rfl⟩) ⟨fun q hq => .tail _ (hs q hq), LinesIn.snoc (b := true) (hL.mono fun p hp => .tail _ hp) (.head _)⟩
    | false =>
      k_steps
      (rename _ ∧ _ ∧ _ ∧ AllLt _ _ => l9)
      refine LCg.CompEnd.intro (by assumption) (by assumption) (_ :: news₁) (fun p hp => mem4 hp) ⟨⟨by k_ne, by k_ne, by k_ne⟩, off9⟩ (.inr ⟨_, .tail _ (hs _ hF), rfl, _, rfl⟩) ⟨fun q hq => .tail _ (hs q hq), LinesIn.snoc (b := false) (hL.mono fun p hp => .tail _ hp) (.head _)⟩
  · intro ys news₁ hJ
    obtain ⟨hs, hL⟩ := hJ
    rw [hW.len, List.take_length] at hL
    unfold LCg.FinE
    intro D h tk F9 N9 off9
    k_steps
    exact hret _ _ _ _ _ (by k_asm) (by k_asm) hs hL off9
end
/-! part PgO -/
section
variable {prog : Program} {w : World} {A : Around} {s : Shared} {h₀ : Heap} {L : Addr} {m : Str → Option Value} {env : Env} {ct elt : PySem.Expr} {x : Str} {scope : Scope} {cl : List (Str × Addr)} {S : List (Addr × Obj) → Prop} {P : Nat → Value → Prop} {Fin : List Value → List (Addr × Obj) → Prop}
theorem compInvT {n : Nat} (J : Nat → List Value → List (Addr × Obj) → Prop)
    (turn : ∀ i v ys news I oI C oC D m₂ h tk (E' : Value → Shared → Prop), i < n → P i v → J i ys news → LCg.NsObj oC m₂ → m₂ x = some v → Fr h₀ L h m → News h₀ L h ((I, oI) :: (C, oC) :: (D, LCg.lst ys) :: news) → LCg.Off3 I C D news → ((@Ne Nat I C) ∧ (@Ne Nat I D) ∧ (@Ne Nat C D)) →
      wpAny (model prog w) A (isTrue ct (compEnvC scope cl C env) (eval ct (compEnvC scope cl C env))) (fun ok s' => if ok = true then
        wpAny (model prog w) A (eval elt (compEnvC scope cl C env)) (LCg.CompEnd h₀ L m { s with heap := h, toks := tk } I oI C oC D (LCg.lst ys) S (fun y news' => J (i + 1) (ys ++ [y]) news')) E' s'
        else LCg.CompEnd h₀ L m { s with heap := h, toks := tk } I oI C oC D (LCg.lst ys) S (fun _ news' => J (i + 1) ys news') Value.none s') E' { s with heap := h, toks := tk })
    (fin : ∀ ys news, J n ys news → Fin ys news) : ∀ k i ys news, i + k = n → J i ys news → LCt.CompRestT prog w A h₀ L m env ct elt x scope cl s S P Fin k i ys news
  | 0, i, ys, news, e, hJ => fin ys news (by have : i = n := e; rw [← this]; exact hJ)
  | k + 1, i, ys, news, e, hJ => fun v I oI C oC D m₂ h tk E' hP hC hx F N off ne =>
    wpAny_mono (turn i v ys news I oI C oC D m₂ h tk E' (by omega) hP hJ hC hx F N off ne) (fun ok s' h₂ => by
      cases ok with
      | true =>
        rw [if_pos rfl] at h₂ ⊢
        refine wpAny_mono h₂ (fun y s₂ h₃ => ?_) fun _ _ z => z
        obtain ⟨h', tk', news', e', F', N', off', hS, hj⟩ := h₃
        exact ⟨h', tk', news', e', F', N', off', hS, compInvT J turn fin k (i + 1) (ys ++ [y]) news' (by omega) hj⟩
      | false =>
        rw [if_neg Bool.false_ne_true] at h₂ ⊢
        obtain ⟨h', tk', news', e', F', N', off', hS, hj⟩ := h₂
        exact ⟨h', tk', news', e', F', N', off', hS, compInvT J turn fin k (i + 1) ys news' (by omega) hj⟩) fun _ _ z => z
end
/-- the places (from c on) whose front is b -/
def sel (bs : List Bool) (b : Bool) (c : Int) : Nat → List Int
  | 0 => []
  | i + 1 => if bs.getD i (!b) = b then sel bs b c i ++ [(i : Int) + c] else sel bs b c i
theorem sel_len (bs : List Bool) (b : Bool) (c : Int) : ∀ i, (sel bs b c i).length ≤ i
  | 0 => by simp [sel]
  | i + 1 => by
    have := sel_len bs b c i
    rw [sel]
    split
    · rw [List.length_append, List.length_singleton]; omega
    · omega
theorem range_small {n : Nat} (h : n ≤ 1000) : Builtin.Range.small 0 (n : Int) 1 = true := small_one (by decide) (by decide) (by omega) (by omega)
theorem range_size {n : Nat} : Builtin.Range.rangeSize 0 (n : Int) 1 = ((n : Nat) : Int) := by
  unfold Builtin.Range.rangeSize
  rw [if_pos (by decide)]
  split
  · rw [Int.ediv_one]; omega
  · omega
theorem sel_pos {bs : List Bool} {b : Bool} {c : Int} {i : Nat} (h : bs[i]? = some b) : sel bs b c (i + 1) = sel bs b c i ++ [(i : Int) + c] := by
  rw [sel, if_pos (by rw [List.getD_eq_getElem?_getD, h]; rfl)]
theorem sel_neg {bs : List Bool} {b b' : Bool} {c : Int} {i : Nat} (h : bs[i]? = some b') (hne : b' ≠ b) : sel bs b c (i + 1) = sel bs b c i := by
  rw [sel, if_neg (by rw [List.getD_eq_getElem?_getD, h]; exact hne)]
local macro_rules | `(tactic| walk_at "enterC0") => `(tactic| (refine' code_defC ?k1 ?k2 ?k3 ?k4 ?k5 ?kA ?kF ?kK ?k6 ?k7 ?k8 ?k9 ?kB ?kD ?_ ?c2 ?c3 ?c4; (case kA => exact rfl); (case kF => exact rfl); (case kK => first | exact rfl | assumption); (case k1 => k_asm); (case k2 => k_asm); (case k3 => k_asm); (case k4 => k_asm); (case k5 => k_asm); (case k6 => k_is); (case k7 => k_is); (case k8 => ktr_room); (case k9 => exact BindsTo.of_eq rfl); (case kB => exact rfl); (case kD => decide +kernel); (case c2 => exact rfl); (case c3 => exact rfl); (case c4 => exact rfl); k_whole))
section
variable {prog : Program} {w : World} {p : Program} {loose : List Str} {mean : ExcName → Option Value} {mg mb : Str → Option Value}
    {dp un : Nat} {gd : Option (List Code)} {cn : Str} {cs : Scope} {a : Addr} {ccd : Value} {cl : List (Str × Addr)} {outer : List Env} {A₀ : Around} {base h₀ : Heap} {L : Addr} {m : Str → Option Value} {s : Shared} {Q E : Value → Shared → Prop} {news : List (Addr × Obj)}
theorem height_t {Fa : Addr} {vs : List Value} {bs : List Bool} {nF : Nat} {pl : Int} {tp : Tok}
    (B : Below A₀ base outer h₀) (F : Fr h₀ L s.heap m) (X : (Mine.hd.heap_39 w.params).In h₀) (N : News h₀ L s.heap news) (T : Top p loose mean mg mb h₀) (hk : cs.kind = .function)
    (hF : (Fa, listOf vs.toArray nF) ∈ news) (hW : Ws vs bs) (hlen : vs.length ≤ 1000) (hpl : 0 ≤ pl) (hpl2 : pl ≤ 1000)
    (hdp : dp + 2 < recursionLimit) (hun : un + 16 < cLine)
    (hret : ∀ (t' : Tok) (h' : Heap) (tk' : Nat) (news' : List (Addr × Obj)), Fr h₀ L h' m → News h₀ L h' news' → (∀ q ∈ news, q ∈ news') → Q (.int (pl * pl + 2 * (sel bs true 1 bs.length).sum) t') { s with heap := h', toks := tk' }) :
    wpAny (model prog w) (ktrTop dp un gd cn cs L a ccd cl outer) (call (.ref 141) [.int pl tp, .ref Fa]) Q E s := by
  k_with_none
  w_top off
  k_with "call builtin:list.pop" => (k_here; (with_reducible show wpAny _ _ (call (Value.builtin _) [Value.ref _, Value.int 0 _]) _ _ _); k_dflt (refine pop0 (by k_asm) (by k_asm) (by k_upd) (by assumption) ?_); intro _ _ _)
  k_with "truthy ref" => (k_here; k_dflt (refine truthyCons (by k_asm) (by k_mem) (by assumption) ?_); (try rw [if_pos rfl]))
  k_with "call builtin:len" => (k_here; (with_reducible show wpAny _ _ (call (Value.builtin "len") [Value.ref _]) _ _ _); k_dflt (refine lenLed (by k_asm) (by k_mem) (by first | assumption | (simp only [List.length_cons, List.length_nil]; omega)) ?_))
  k_with "call builtin:iter" => (k_here; (with_reducible show wpAny _ _ (call (Value.builtin "iter") [Value.ref _, Value.str _ _]) _ _ _); k_dflt (refine iter2 (by k_asm) (by k_asm) (by k_mem) ?_); intro _ _ _ _ lz9; (try k_lt lz9))
  k_with "exec For Name Name cons nil" => (k_here; k_dflt (refine owit_for ?_))
  k_with "pyIter ref" => ((with_reducible show wpAny _ _ (pyIter (Value.ref _)) (OwitAt _ _ _ _ _ _ _ _) _ _); k_here; k_dflt (refine iter_self (by exact News.get (by k_asm) (by k_mem)) ?_))
  k_with "OwitRest" => refine hold ?_
  k_with "ite" => first | refine iteT (by with_reducible assumption) ?_ | refine iteF (by with_reducible assumption) ?_
  k_with "CompSrcT" => refine hold ?_
  k_with "call builtin:sum" => refine hold ?_
  k_with "call builtin:len" => (k_here; (with_reducible show wpAny _ _ (call (Value.builtin "len") [Value.ref _]) _ _ _); k_dflt (refine lenLed (by k_asm) (by first | assumption | exact List.Mem.head _ | exact List.Mem.tail _ (by assumption)) (by assumption) ?_))
  k_with "subscriptTail Name Name ref int" => refine hold ?_
  k_with "eval Name" => (k_here; (with_reducible show wpAny _ _ (eval (Expr.Name _ _) (compEnvC _ _ _ _)) _ _ _); k_dflt (refine LCgL.ld_own (by k_asm) (.tail _ (.head _)) (by assumption) (by assumption) ?_))
  have hlen' : vs.length ≤ 10000 := by omega
  refine wpAny_call ?_
  k_dflt walk_at "enterC0"
  intro g' L' h' tk' cells' FG' F' N' Y' B' X' T' l1
  obtain ⟨o', hE', d1'⟩ := CellsAre.one Y'
  subst hE'
  clear Y'
  simp only [List.cons_append, List.nil_append] at N'
  dsimp only
  k_fold
  k_steps
  (rename IsRange _ _ _ _ _ _ _ _ => hR)
  refine Hold.out (LCt.CompSrcT.range (n := vs.length) rfl (by k_asm) (by k_asm) hR ?_ ?_ ?_ (fun g => ?_))
  · exact range_small hlen
  · exact range_size
  · rw [sizeLine_eq]; omega
  refine compInvT (n := vs.length) (fun i ys news₁ => (∀ q ∈ (L' + 1, o') :: news, q ∈ news₁) ∧ IntsAre ys (sel bs true 1 i)) ?_ ?_ vs.length 0 [] _ (by omega) ⟨fun _ h => h, .nil⟩
  · intro i v ys news₁ I oI C oC D m₂ h tk E' hi hP hJ hC hx F9 N9 off9 ne9
    obtain ⟨hs, hL⟩ := hJ
    obtain ⟨t, rfl⟩ := hP
    have hbl : i < bs.length := hW.len ▸ hi
    have hcell := hs _ (.head _)
    have hF1 := hs _ (.tail _ hF)
    obtain ⟨tb, hvb⟩ := hW.all i vs[i] bs[i] (List.getElem?_eq_getElem hi) (List.getElem?_eq_getElem hbl)
    have hvi : vs[((0 : Int) + (i : Int)).toNat]? = some (.str (wd bs[i]) tb) := by rw [Int.zero_add, Int.toNat_natCast, List.getElem?_eq_getElem hi, hvb]
    k_steps
    refine Hold.out (itemLed (by k_asm) (.tail _ (.tail _ (.tail _ hF1))) (by omega) (by omega) hvi ?_)
    have hbi : bs[i]? = some bs[i] := List.getElem?_eq_getElem hbl
    generalize bs[i] = b at hbi
    cases b with
    | true =>
      k_steps
      refine LCg.CompEnd.intro (by assumption) (by assumption) news₁ (fun p hp => hp) off9 trivial ⟨hs, ?_⟩
      rw [sel_pos hbi]
      have e : (i : Int) + 1 = 0 + (i : Int) + 1 := by omega
      rw [e]
      exact hL.append (.cons _ _ .nil)
    | false =>
      k_steps
      refine LCg.CompEnd.intro (by assumption) (by assumption) news₁ (fun p hp => hp) off9 trivial ⟨hs, ?_⟩
      rw [sel_neg hbi (by decide)]
      exact hL
  · intro ys news₁ hJ
    obtain ⟨hs, hL⟩ := hJ
    unfold LCg.FinE
    intro D h tk F9 N9 off9
    k_steps
    refine Hold.out (sumK (by rfl) (by k_asm) (by k_asm) (News.isList (by k_asm) (.head _)) hL ?_)
    intro h2 tk2 t2 F2 N2
    k_steps
    rw [hW.len]
    exact hret _ _ _ _ (by k_asm) (by k_asm) (fun q hq => .tail _ (hs q (.tail _ hq)))
end
/-! part PgP -/
section
variable {prog : Program} {w : World} {A : Around} {E : Value → Shared → Prop} {s : Shared} {h₀ : Heap} {L D : Addr} {m : Str → Option Value} {news : List (Addr × Obj)} {n : Nat}
theorem itemNeg {value slice : PySem.Expr} {vs : List Value} {k : Int} {u : Tok} {v : Value} {Q : Value → Shared → Prop}
    (N : News h₀ L s.heap news) (hm : (D, listOf vs.toArray n) ∈ news) (h0 : k < 0) (h1 : -(vs.length : Int) ≤ k) (hz : vs.length ≤ 1000) (hx : vs[(k + vs.length).toNat]? = some v) (h : Q v s)
    (hs : subscripted slice false (.ref D) (.int k u) = operate [.ref D, .int k u] (getItem (.ref D) (.int k u)) := by with_unfolding_all rfl) :
    wpAny (model prog w) A (subscriptTail value slice (.ref D) (.int k u)) Q E s :=
  have hl := News.isList N hm
  tail_any hl.typeIs slot_list_getitem.lookup (wpAny_getItem_list_neg hl h0 (by simpa using h1) (by omega) (by simpa using hx) h) hs
theorem mulOne {l : Addr} {v : Value} {k j : Nat} {x : Int} {u : Tok} {Q : Value → Shared → Prop} (F : Fr h₀ L s.heap m) (N : News h₀ L s.heap news) (hl : (l, listOf #[v] k) ∈ news) (hx : x = (j : Int)) (hj : j ≤ 1000)
    (h : ∀ D h', Fr h₀ L h' m → News h₀ L h' ((D, listOf (List.replicate j v).toArray 0) :: news) → (∀ p ∈ news, p.1 < D) → Q (.ref D) { s with heap := h' }) :
    wpAny (model prog w) A (binaryOp .Mult (.ref l) (.int x u)) Q E s := by
  subst hx
  refine mul_list F N (N _ hl).1 (by omega) (by omega) (by simp; omega) fun h' F' N' => h _ h' F' ?_ fun p hp => Heap.lt_size (N p hp).1
  have e : (List.foldl (fun x1 x2 => x1 ++ x2) #[] (List.replicate (if (#[v] : Array Value).isEmpty = true then 0 else (j : Int).toNat) #[v])) = (List.replicate j v).toArray := by
    rw [if_neg (by simp), Int.toNat_natCast]
    have key : ∀ (j : Nat) (acc : Array Value), (List.foldl (fun x1 x2 => x1 ++ x2) acc (List.replicate j #[v])).toList = acc.toList ++ List.replicate j v := by
      intro j
      induction j with
      | zero => intro acc; simp
      | succ j ih => intro acc; rw [List.replicate_succ, List.foldl_cons, ih, List.replicate_succ, Array.toList_append]; simp
    apply Array.toList_inj.mp
    rw [key]; simp
  rw [e] at N'
  exact N'
theorem addLed {l b : Addr} {xs ys : List Value} {i j : Nat} {Q : Value → Shared → Prop} (F : Fr h₀ L s.heap m) (N : News h₀ L s.heap news) (hl : (l, listOf xs.toArray i) ∈ news) (hb : (b, listOf ys.toArray j) ∈ news) (hz : xs.length + ys.length ≤ 10000)
    (h : ∀ D h', Fr h₀ L h' m → News h₀ L h' ((D, listOf (xs ++ ys).toArray 0) :: news) → (∀ p ∈ news, p.1 < D) → Q (.ref D) { s with heap := h' }) :
    wpAny (model prog w) A (binaryOp .Add (.ref l) (.ref b)) Q E s :=
  add_arrays F N (News.isList N hl) (News.isList N hb) (fun h' F' N' => h _ h' F' (by simpa using N') fun p hp => Heap.lt_size (N p hp).1) (by rw [List.size_toArray, List.size_toArray, sizeLine_eq]; omega)
end
theorem sel_mem {bs : List Bool} {b : Bool} : ∀ {i : Nat} {x : Int}, i ≤ bs.length → x ∈ sel bs b 0 i → ∃ k : Nat, k < i ∧ x = (k : Int)
  | 0, _, _, h => by simp [sel] at h
  | i + 1, x, hi, h => by
    rw [sel] at h
    split at h
    · rcases List.mem_append.mp h with h | h
      · obtain ⟨k, hk, e⟩ := sel_mem (by omega) h; exact ⟨k, by omega, e⟩
      · exact ⟨i, by omega, by rw [List.mem_singleton.mp h]; omega⟩
    · obtain ⟨k, hk, e⟩ := sel_mem (by omega) h; exact ⟨k, by omega, e⟩
theorem sel_total {bs : List Bool} : ∀ {i : Nat}, i ≤ bs.length → (sel bs true 0 i).length + (sel bs false 0 i).length = i
  | 0, _ => by simp [sel]
  | i + 1, h => by
    have ih := sel_total (bs := bs) (i := i) (by omega)
    have hi : bs[i]? = some bs[i] := List.getElem?_eq_getElem (by omega)
    generalize bs[i] = b at hi
    cases b with
    | true => rw [sel_pos hi, sel_neg hi (by decide), List.length_append, List.length_singleton]; omega
    | false => rw [sel_pos hi, sel_neg hi (by decide), List.length_append, List.length_singleton]; omega
def toldP (bs : List Bool) (st : Int) : Int × List Bool :=
  if 0 < st + ((sel bs true 0 bs.length).length : Int) - (bs.length : Int) then
    ((bs.length : Int) + 1, bs.take ((sel bs true 0 bs.length).getD (st + ((sel bs true 0 bs.length).length : Int) - (bs.length : Int) - 1).toNat 0).toNat ++ List.replicate (bs.length - ((sel bs true 0 bs.length).getD (st + ((sel bs true 0 bs.length).length : Int) - (bs.length : Int) - 1).toNat 0).toNat) false)
  else (0, List.replicate (((sel bs false 0 bs.length).getD (st - 1).toNat 0).toNat + 1) true ++ bs.drop (((sel bs false 0 bs.length).getD (st - 1).toNat 0).toNat + 1))
theorem Ws.append {xs ys : List Value} {as bs : List Bool} (h : Ws xs as) (h' : Ws ys bs) : Ws (xs ++ ys) (as ++ bs) :=
  ⟨by rw [List.length_append, List.length_append, h.len, h'.len], fun i v b hv hb => by
    by_cases hi : i < xs.length
    · rw [List.getElem?_append_left hi] at hv
      rw [List.getElem?_append_left (h.len ▸ hi)] at hb
      exact h.all i v b hv hb
    · rw [List.getElem?_append_right (by omega)] at hv
      rw [List.getElem?_append_right (by rw [← h.len]; omega), ← h.len] at hb
      exact h'.all _ v b hv hb⟩
theorem Ws.take {xs : List Value} {as : List Bool} (h : Ws xs as) (k : Nat) : Ws (xs.take k) (as.take k) :=
  ⟨by rw [List.length_take, List.length_take, h.len], fun i v b hv hb => by
    rw [List.getElem?_take] at hv hb
    split at hv
    · rename_i hi; rw [if_pos hi] at hb; exact h.all i v b hv hb
    · cases hv⟩
theorem Ws.drop {xs : List Value} {as : List Bool} (h : Ws xs as) (k : Nat) : Ws (xs.drop k) (as.drop k) :=
  ⟨by rw [List.length_drop, List.length_drop, h.len], fun i v b hv hb => by
    rw [List.getElem?_drop] at hv hb
    exact h.all _ v b hv hb⟩
theorem Ws.rep (b : Bool) (t : Tok) (k : Nat) : Ws (List.replicate k (.str (wd b) t)) (List.replicate k b) :=
  ⟨by simp, fun i v c hv hc => by
    rw [List.getElem?_replicate] at hv hc
    split at hv
    · rename_i hi; rw [if_pos hi] at hc; cases hv; cases hc; exact ⟨t, rfl⟩
    · cases hv⟩
theorem told_pos {bs : List Bool} {st : Int} {j kc n : Nat} (hn : n = bs.length) (h : 0 < st + ((sel bs true 0 n).length : Int) - (n : Int)) (hj : st + ((sel bs true 0 n).length : Int) - (n : Int) - 1 = (j : Int)) (hk : (sel bs true 0 n)[j]? = some (kc : Int)) :
    toldP bs st = ((n : Int) + 1, bs.take kc ++ List.replicate (n - kc) false) := by
  subst hn
  unfold toldP
  rw [if_pos h, hj, Int.toNat_natCast, List.getD_eq_getElem?_getD, hk, Option.getD_some, Int.toNat_natCast]
theorem told_neg {bs : List Bool} {st : Int} {j kc n : Nat} (hn : n = bs.length) (h : ¬ 0 < st + ((sel bs true 0 n).length : Int) - (n : Int)) (hj : st - 1 = (j : Int)) (hk : (sel bs false 0 n)[j]? = some (kc : Int)) :
    toldP bs st = (0, List.replicate (kc + 1) true ++ bs.drop (kc + 1)) := by
  subst hn
  unfold toldP
  rw [if_neg h, hj, Int.toNat_natCast, List.getD_eq_getElem?_getD, hk, Option.getD_some, Int.toNat_natCast]
section
variable {prog : Program} {w : World} {p : Program} {loose : List Str} {mean : ExcName → Option Value} {mg mb : Str → Option Value}
    {dp un : Nat} {gd : Option (List Code)} {cn : Str} {cs : Scope} {a : Addr} {ccd : Value} {cl : List (Str × Addr)} {outer : List Env} {A₀ : Around} {base h₀ : Heap} {L : Addr} {m : Str → Option Value} {s : Shared} {Q E : Value → Shared → Prop} {news : List (Addr × Obj)}
theorem told_t {Fa : Addr} {vs : List Value} {bs : List Bool} {nF : Nat} {st : Int} {ts : Tok}
    (B : Below A₀ base outer h₀) (F : Fr h₀ L s.heap m) (X : (Mine.hd.heap_39 w.params).In h₀) (N : News h₀ L s.heap news) (T : Top p loose mean mg mb h₀) (hk : cs.kind = .function)
    (hF : (Fa, listOf vs.toArray nF) ∈ news) (hW : Ws vs bs) (hlen : vs.length ≤ 100) (hst1 : 1 ≤ st) (hst2 : st ≤ vs.length)
    (hdp : dp + 2 < recursionLimit) (hun : un + 16 < cLine)
    (hret : ∀ (l Da : Addr) (t' : Tok) (vs' : List Value) (h' : Heap) (tk' : Nat) (news' : List (Addr × Obj)), Fr h₀ L h' m → News h₀ L h' news' → (∀ q ∈ news, q ∈ news') → (l, listOf #[.int (toldP bs st).1 t', .ref Da] 0) ∈ news' → (Da, listOf vs'.toArray 0) ∈ news' → Ws vs' (toldP bs st).2 → (∀ q ∈ news, @LT.lt Nat _ q.1 Da) → Q (.ref l) { s with heap := h', toks := tk' }) :
    wpAny (model prog w) (ktrTop dp un gd cn cs L a ccd cl outer) (call (.ref 136) [.ref Fa, .int st ts]) Q E s := by
  k_with_none
  w_top off
  k_with "call builtin:list.pop" => (k_here; (with_reducible show wpAny _ _ (call (Value.builtin _) [Value.ref _, Value.int 0 _]) _ _ _); k_dflt (refine pop0 (by k_asm) (by k_asm) (by k_upd) (by assumption) ?_); intro _ _ _)
  k_with "truthy ref" => (k_here; k_dflt (refine truthyCons (by k_asm) (by k_mem) (by assumption) ?_); (try rw [if_pos rfl]))
  k_with "call builtin:len" => (k_here; (with_reducible show wpAny _ _ (call (Value.builtin "len") [Value.ref _]) _ _ _); k_dflt (refine lenLed (by k_asm) (by k_mem) (by first | assumption | (simp only [List.length_cons, List.length_nil]; omega)) ?_))
  k_with "call builtin:iter" => (k_here; (with_reducible show wpAny _ _ (call (Value.builtin "iter") [Value.ref _, Value.str _ _]) _ _ _); k_dflt (refine iter2 (by k_asm) (by k_asm) (by k_mem) ?_); intro _ _ _ _ lz9; (try k_lt lz9))
  k_with "exec For Name Name cons nil" => (k_here; k_dflt (refine owit_for ?_))
  k_with "pyIter ref" => ((with_reducible show wpAny _ _ (pyIter (Value.ref _)) (OwitAt _ _ _ _ _ _ _ _) _ _); k_here; k_dflt (refine iter_self (by exact News.get (by k_asm) (by k_mem)) ?_))
  k_with "OwitRest" => refine hold ?_
  k_with "ite" => first | refine iteT (by with_reducible assumption) ?_ | refine iteF (by with_reducible assumption) ?_
  k_with "CompSrcT" => refine hold ?_
  k_with "call builtin:sum" => refine hold ?_
  k_with "call builtin:len" => (k_here; (with_reducible show wpAny _ _ (call (Value.builtin "len") [Value.ref _]) _ _ _); k_dflt (refine lenLed (by k_asm) (by first | assumption | exact List.Mem.head _ | exact List.Mem.tail _ (by assumption)) (by assumption) ?_))
  k_with "subscriptTail Name Name ref int" => refine hold ?_
  k_with "eval Name" => (k_here; (with_reducible show wpAny _ _ (eval (Expr.Name _ _) (compEnvC _ _ _ _)) _ _ _); k_dflt (refine LCgL.ld_own (by k_asm) (.tail _ (.head _)) (by assumption) (by assumption) ?_))
  k_with "subscriptTail Name BinOp ref int" => refine hold ?_
  k_with "subscriptTail Name Slice ref ref" => refine hold ?_
  k_with "binaryOp Mult ref int" => refine hold ?_
  k_with "binaryOp Add ref ref" => refine hold ?_
  have hlen' : vs.length ≤ 10000 := by omega
  refine wpAny_call ?_
  k_dflt walk_at "enterC0"
  intro g' L' h' tk' cells' FG' F' N' Y' B' X' T' l1
  obtain ⟨o', hE', d1'⟩ := CellsAre.one Y'
  subst hE'
  clear Y'
  simp only [List.cons_append, List.nil_append] at N'
  dsimp only
  k_fold
  k_steps
  (rename IsRange _ _ _ _ _ _ _ _ => hR)
  refine Hold.out (LCt.CompSrcT.range (n := vs.length) rfl (by k_asm) (by k_asm) hR (range_small (by omega)) range_size (by rw [sizeLine_eq]; omega) (fun g => ?_))
  refine compInvT (n := vs.length) (fun i ys news₁ => (∀ q ∈ (L' + 1, o') :: news, q ∈ news₁) ∧ IntsAre ys (sel bs true 0 i)) ?_ ?_ vs.length 0 [] _ (by omega) ⟨fun _ h => h, .nil⟩
  · intro i v ys news₁ I oI C oC D m₂ h tk E' hi hP hJ hC hx F9 N9 off9 ne9
    obtain ⟨hs, hL⟩ := hJ
    obtain ⟨t, rfl⟩ := hP
    have hbl : i < bs.length := hW.len ▸ hi
    have hcell := hs _ (.head _)
    have hF1 := hs _ (.tail _ hF)
    obtain ⟨tb, hvb⟩ := hW.all i vs[i] bs[i] (List.getElem?_eq_getElem hi) (List.getElem?_eq_getElem hbl)
    have hvi : vs[((0 : Int) + (i : Int)).toNat]? = some (.str (wd bs[i]) tb) := by rw [Int.zero_add, Int.toNat_natCast, List.getElem?_eq_getElem hi, hvb]
    k_steps
    refine Hold.out (itemLed (by k_asm) (.tail _ (.tail _ (.tail _ hF1))) (by omega) (by omega) hvi ?_)
    have hbi : bs[i]? = some bs[i] := List.getElem?_eq_getElem hbl
    generalize bs[i] = b at hbi
    cases b with
    | true =>
      k_steps
      refine LCg.CompEnd.intro (by assumption) (by assumption) news₁ (fun p hp => hp) off9 trivial ⟨hs, ?_⟩
      rw [sel_pos hbi]
      have e : (i : Int) + 0 = 0 + (i : Int) := by omega
      rw [e]
      exact hL.append (.cons _ _ .nil)
    | false =>
      k_steps
      refine LCg.CompEnd.intro (by assumption) (by assumption) news₁ (fun p hp => hp) off9 trivial ⟨hs, ?_⟩
      rw [sel_neg hbi (by decide)]
      exact hL
  intro ys1 news1 hJ1
  obtain ⟨hs1, hL1⟩ := hJ1
  have hcell1 := hs1 _ (.head _)
  have hF1' := hs1 _ (.tail _ hF)
  unfold LCg.FinA
  intro D1 h1 tk1 F1 N1 off1
  k_steps
  (rename IsRange _ _ _ _ _ _ _ _ => hR)
  refine Hold.out (LCt.CompSrcT.range (n := vs.length) rfl (by k_asm) (by k_asm) hR (range_small (by omega)) range_size (by rw [sizeLine_eq]; omega) (fun g => ?_))
  refine compInvT (n := vs.length) (fun i ys news₁ => (∀ q ∈ (D1, LCg.lst ys1) :: news1, q ∈ news₁) ∧ IntsAre ys (sel bs false 0 i)) ?_ ?_ vs.length 0 [] _ (by omega) ⟨fun _ h => h, .nil⟩
  · intro i v ys news₁ I oI C oC D m₂ h tk E' hi hP hJ hC hx F9 N9 off9 ne9
    obtain ⟨hs, hL⟩ := hJ
    obtain ⟨t, rfl⟩ := hP
    have hbl : i < bs.length := hW.len ▸ hi
    have hcell := hs _ (.tail _ hcell1)
    have hF1 := hs _ (.tail _ hF1')
    obtain ⟨tb, hvb⟩ := hW.all i vs[i] bs[i] (List.getElem?_eq_getElem hi) (List.getElem?_eq_getElem hbl)
    have hvi : vs[((0 : Int) + (i : Int)).toNat]? = some (.str (wd bs[i]) tb) := by rw [Int.zero_add, Int.toNat_natCast, List.getElem?_eq_getElem hi, hvb]
    k_steps
    refine Hold.out (itemLed (by k_asm) (.tail _ (.tail _ (.tail _ hF1))) (by omega) (by omega) hvi ?_)
    have hbi : bs[i]? = some bs[i] := List.getElem?_eq_getElem hbl
    generalize bs[i] = b at hbi
    cases b with
    | false =>
      k_steps
      refine LCg.CompEnd.intro (by assumption) (by assumption) news₁ (fun p hp => hp) off9 trivial ⟨hs, ?_⟩
      rw [sel_pos hbi]
      have e : (i : Int) + 0 = 0 + (i : Int) := by omega
      rw [e]
      exact hL.append (.cons _ _ .nil)
    | true =>
      k_steps
      refine LCg.CompEnd.intro (by assumption) (by assumption) news₁ (fun p hp => hp) off9 trivial ⟨hs, ?_⟩
      rw [sel_neg hbi (by decide)]
      exact hL
  intro ys2 news2 hJ2
  obtain ⟨hs2, hL2⟩ := hJ2
  have hcell2 := hs2 _ (.tail _ hcell1)
  have hF2 := hs2 _ (.tail _ hF1')
  have hups := hs2 _ (.head _)
  unfold LCg.FinA
  intro D2 h2 tk2 F2 N2 off2
  have hz1 : ys1.length ≤ 10000 := by have := hL1.length; have := sel_len bs true 0 vs.length; omega
  have hl1 := hL1.length
  have hl2 := hL2.length
  have htot := sel_total (bs := bs) (i := vs.length) (by rw [hW.len]; exact Nat.le_refl _)
  by_cases hm : 0 < st + (ys1.length : Int) - (vs.length : Int)
  · obtain ⟨j, hj⟩ : ∃ j : Nat, st + (ys1.length : Int) - (vs.length : Int) - 1 = (j : Int) := ⟨(st + (ys1.length : Int) - (vs.length : Int) - 1).toNat, by omega⟩
    have hjl : j < ys1.length := by omega
    have hjs : (sel bs true 0 vs.length)[j]? = some ((sel bs true 0 vs.length)[j]'(by omega)) := List.getElem?_eq_getElem (by omega)
    obtain ⟨kc, hkc, ekc⟩ := sel_mem (by rw [hW.len]; exact Nat.le_refl _) (List.mem_of_getElem? hjs)
    rw [ekc] at hjs
    obtain ⟨tj, hyj⟩ := hL1.get j _ hjs
    k_steps
    all_goals first | (exfalso; omega) | skip
    refine Hold.out (itemLed (v := .int (kc : Int) tj) (by k_asm) (.tail _ hups) (by omega) (by omega) (by rw [hj, Int.toNat_natCast]; exact hyj) ?_)
    k_steps
    refine Hold.out ?_
    k_dflt refine' kmk_slice_lit (zs := vs.take kc) ?yF ?yN ?yl ?yp ?yq ?ye ?_ ?ys ?yt ?yz
    case yF => k_asm
    case yN => k_asm
    case yl => exact News.isList (by k_asm) (.tail _ hF2)
    case yp => kmk_part
    case yq => kmk_part
    case ye => rw [slicePick_upto _ _ (by rw [List.size_toArray]; omega)]
    case ys => with_unfolding_all rfl
    case yt => kmk_pure
    case yz => rw [List.size_toArray, sizeLine_eq]; omega
    intro D3 h3 F3 N3 lt3
    k_steps
    refine Hold.out (mulOne (j := vs.length - kc) (by k_asm) (by k_asm) (.head _) (by omega) (by omega) ?_)
    intro D4 h4 F4 N4 lt4
    k_steps
    refine Hold.out (addLed (by k_asm) (by k_asm) (.tail _ (.tail _ (.head _))) (.head _) (by rw [List.length_take, List.length_replicate]; omega) ?_)
    intro D5 h5 F5 N5 lt5
    k_steps
    rw [told_pos (n := vs.length) hW.len (by rw [← hl1]; exact hm) (by rw [← hl1]; exact hj) hjs] at hret
    exact hret _ _ _ _ _ _ _ (by k_asm) (by assumption) (fun q hq => .tail _ (.tail _ (.tail _ (.tail _ (.tail _ (.tail _ (hs2 q (.tail _ (hs1 q (.tail _ hq)))))))))) (.head _) (.tail _ (.head _)) ((hW.take kc).append (Ws.rep false _ _)) (fun q hq => lt5 q (.tail _ (.tail _ (.tail _ (.tail _ (hs2 q (.tail _ (hs1 q (.tail _ hq)))))))))
  · obtain ⟨j, hj⟩ : ∃ j : Nat, st - 1 = (j : Int) := ⟨(st - 1).toNat, by omega⟩
    have hjl : j < ys2.length := by omega
    have hjs : (sel bs false 0 vs.length)[j]? = some ((sel bs false 0 vs.length)[j]'(by omega)) := List.getElem?_eq_getElem (by omega)
    obtain ⟨kc, hkc, ekc⟩ := sel_mem (by rw [hW.len]; exact Nat.le_refl _) (List.mem_of_getElem? hjs)
    rw [ekc] at hjs
    obtain ⟨tj, hyj⟩ := hL2.get j _ hjs
    k_steps
    all_goals first | (exfalso; omega) | skip
    refine Hold.out (itemNeg (v := .int (kc : Int) tj) (by k_asm) (.head _) (by omega) (by omega) (by omega) (by rw [show (st + (ys1.length : Int) - (vs.length : Int) - 1 + (ys2.length : Int)).toNat = j by omega]; exact hyj) ?_)
    k_steps
    refine Hold.out (mulOne (j := kc + 1) (by k_asm) (by k_asm) (.head _) (by omega) (by omega) ?_)
    intro D4 h4 F4 N4 lt4
    k_steps
    refine Hold.out ?_
    k_dflt refine' kmk_slice_lit (zs := vs.drop (kc + 1)) ?yF ?yN ?yl ?yp ?yq ?ye ?_ ?ys ?yt ?yz
    case yF => k_asm
    case yN => k_asm
    case yl => exact News.isList (by k_asm) (.tail _ (.tail _ (.tail _ hF2)))
    case yp => kmk_part
    case yq => kmk_part
    case ye =>
      rw [show ((kc : Int) + 1) = ((kc + 1 : Nat) : Int) by omega, slicePick_from _ _ (by rw [List.size_toArray]; omega)]
    case ys => with_unfolding_all rfl
    case yt => kmk_pure
    case yz => rw [List.size_toArray, sizeLine_eq]; omega
    intro D3 h3 F3 N3 lt3
    k_steps
    refine Hold.out (addLed (by k_asm) (by k_asm) (.tail _ (.head _)) (.head _) (by rw [List.length_drop, List.length_replicate]; omega) ?_)
    intro D5 h5 F5 N5 lt5
    k_steps
    rw [told_neg (n := vs.length) hW.len (by rw [← hl1]; exact hm) hj hjs] at hret
    exact hret _ _ _ _ _ _ _ (by k_asm) (by assumption) (fun q hq => .tail _ (.tail _ (.tail _ (.tail _ (.tail _ (.tail _ (hs2 q (.tail _ (hs1 q (.tail _ hq)))))))))) (.head _) (.tail _ (.head _)) ((Ws.rep true _ _).append (hW.drop (kc + 1))) (fun q hq => lt5 q (.tail _ (.tail _ (.tail _ (.tail _ (hs2 q (.tail _ (hs1 q (.tail _ hq)))))))))
end
/-! part PgQ -/
def fst3 (w0 : Str) (r : Int) : Str := if r = 0 then w0 else if r = 1 then (Str.ofString "\"" ++ w0) ++ Str.ofString "\"" else Str.ofString "\\" ++ w0
def snd2 (r : Int) : Str := if r = 0 then Str.ofString "" else Str.ofString "\\"
def spellS (w0 w1 : Str) (kind : Int) : Str := (((fst3 w0 (Int.fmod kind 3) ++ Str.ofString " ") ++ snd2 (Int.fmod kind 2)) ++ w1) ++ Str.ofString "\n"
section
variable {prog : Program} {w : World} {p : Program} {loose : List Str} {mean : ExcName → Option Value} {mg mb : Str → Option Value}
    {dp un : Nat} {gd : Option (List Code)} {cn : Str} {cs : Scope} {a : Addr} {ccd : Value} {cl : List (Str × Addr)} {outer : List Env} {A₀ : Around} {base h₀ : Heap} {L : Addr} {m : Str → Option Value} {s : Shared} {Q E : Value → Shared → Prop} {news : List (Addr × Obj)}
theorem spelled_t {l : Addr} {w0 w1 : Str} {t0 t1 tk₀ : Tok} {nl : Nat} {kind : Int}
    (B : Below A₀ base outer h₀) (F : Fr h₀ L s.heap m) (X : (Mine.hd.heap_39 w.params).In h₀) (N : News h₀ L s.heap news) (T : Top p loose mean mg mb h₀) (hk : cs.kind = .function)
    (hl : (l, listOf #[.str w0 t0, .str w1 t1] nl) ∈ news) (hw0 : w0.length ≤ 100) (hw1 : w1.length ≤ 100)
    (hdp : dp + 2 < recursionLimit) (hun : un + 16 < cLine)
    (hret : ∀ (t' : Tok) (h' : Heap) (tk' : Nat) (news' : List (Addr × Obj)), Fr h₀ L h' m → News h₀ L h' news' → (∀ q ∈ news, q ∈ news') → Q (.str (spellS w0 w1 kind) t') { s with heap := h', toks := tk' }) :
    wpAny (model prog w) (ktrTop dp un gd cn cs L a ccd cl outer) (call (.ref 124) [.ref l, .int kind tk₀]) Q E s := by
  k_with_none
  w_top off
  k_with "call builtin:list.pop" => (k_here; (with_reducible show wpAny _ _ (call (Value.builtin _) [Value.ref _, Value.int 0 _]) _ _ _); k_dflt (refine pop0 (by k_asm) (by k_asm) (by k_upd) (by assumption) ?_); intro _ _ _)
  k_with "truthy ref" => (k_here; k_dflt (refine truthyCons (by k_asm) (by k_mem) (by assumption) ?_); (try rw [if_pos rfl]))
  k_with "call builtin:len" => (k_here; (with_reducible show wpAny _ _ (call (Value.builtin "len") [Value.ref _]) _ _ _); k_dflt (refine lenLed (by k_asm) (by k_mem) (by first | assumption | (simp only [List.length_cons, List.length_nil]; omega)) ?_))
  k_with "call builtin:iter" => (k_here; (with_reducible show wpAny _ _ (call (Value.builtin "iter") [Value.ref _, Value.str _ _]) _ _ _); k_dflt (refine iter2 (by k_asm) (by k_asm) (by k_mem) ?_); intro _ _ _ _ lz9; (try k_lt lz9))
  k_with "exec For Name Name cons nil" => (k_here; k_dflt (refine owit_for ?_))
  k_with "pyIter ref" => ((with_reducible show wpAny _ _ (pyIter (Value.ref _)) (OwitAt _ _ _ _ _ _ _ _) _ _); k_here; k_dflt (refine iter_self (by exact News.get (by k_asm) (by k_mem)) ?_))
  k_with "OwitRest" => refine hold ?_
  k_with "subscriptTail Name BinOp ref int" => refine hold ?_
  k_with "binaryOp Add str str" => (refine add_str (fun _ _ => ?_) (by first | (rw [sizeLine_eq]; omega) | (simp only [Str.length_append]; rw [sizeLine_eq]; omega)))
  refine wpAny_call ?_
  k_dflt cell_enter
  k_steps
  have hz1 : (Str.ofString "\"").length = 1 := by decide
  have hz2 : (Str.ofString "\\").length = 1 := by decide
  have hz3 : (Str.ofString " ").length = 1 := by decide
  have hz4 : (Str.ofString "\n").length = 1 := by decide
  have hz5 : (Str.ofString "").length = 0 := by decide
  have hf3 : (fst3 w0 (Int.fmod kind 3)).length ≤ 102 := by
    unfold fst3
    split
    · omega
    · split
      · rw [Str.length_append, Str.length_append]; omega
      · rw [Str.length_append]; omega
  have hs2 : (snd2 (Int.fmod kind 2)).length ≤ 1 := by
    unfold snd2
    split <;> omega
  have m3 := Int.fmod_lt_of_pos kind (show (0 : Int) < 3 by decide)
  have n3 := Int.fmod_nonneg_of_pos kind (show (0 : Int) < 3 by decide)
  have m2 := Int.fmod_lt_of_pos kind (show (0 : Int) < 2 by decide)
  have n2 := Int.fmod_nonneg_of_pos kind (show (0 : Int) < 2 by decide)
  have pick3 : ∀ (a b : Tok), ∃ tv, [Value.str w0 t0, .str ((Str.ofString "\"" ++ w0) ++ Str.ofString "\"") a, .str (Str.ofString "\\" ++ w0) b][(Int.fmod kind 3).toNat]? = some (.str (fst3 w0 (Int.fmod kind 3)) tv) := by
    intro a b
    have h3 : Int.fmod kind 3 = 0 ∨ Int.fmod kind 3 = 1 ∨ Int.fmod kind 3 = 2 := by omega
    rcases h3 with e | e | e <;> rw [e]
    · exact ⟨_, rfl⟩
    · exact ⟨_, rfl⟩
    · exact ⟨_, rfl⟩
  have pick2 : ∀ (a b : Tok), ∃ tv, [Value.str (Str.ofString "") a, .str (Str.ofString "\\") b][(Int.fmod kind 2).toNat]? = some (.str (snd2 (Int.fmod kind 2)) tv) := by
    intro a b
    have h3 : Int.fmod kind 2 = 0 ∨ Int.fmod kind 2 = 1 := by omega
    rcases h3 with e | e <;> rw [e]
    · exact ⟨_, rfl⟩
    · exact ⟨_, rfl⟩
  refine Hold.out ?_
  obtain ⟨tv, hv⟩ := pick3 _ _
  refine itemLed (by k_asm) (.head _) n3 (by omega) hv ?_
  k_steps
  refine Hold.out ?_
  obtain ⟨tv2, hv2⟩ := pick2 _ _
  refine itemLed (by k_asm) (.head _) n2 (by omega) hv2 ?_
  k_steps
  exact hret _ _ _ _ (by k_asm) (by k_asm) (fun q hq => .tail _ (.tail _ hq))
end
/-! part PgR -/
structure A5 (p1 p2 p3 p4 p5 : Prop) : Prop where
  i1 : p1
  i2 : p2
  i3 : p3
  i4 : p4
  i5 : p5
structure A8 (p1 p2 p3 p4 p5 p6 p7 p8 : Prop) : Prop where
  i1 : p1
  i2 : p2
  i3 : p3
  i4 : p4
  i5 : p5
  i6 : p6
  i7 : p7
  i8 : p8
structure A9 (p1 p2 p3 p4 p5 p6 p7 p8 p9 : Prop) : Prop where
  i1 : p1
  i2 : p2
  i3 : p3
  i4 : p4
  i5 : p5
  i6 : p6
  i7 : p7
  i8 : p8
  i9 : p9
structure A10 (p1 p2 p3 p4 p5 p6 p7 p8 p9 p10 : Prop) : Prop where
  i1 : p1
  i2 : p2
  i3 : p3
  i4 : p4
  i5 : p5
  i6 : p6
  i7 : p7
  i8 : p8
  i9 : p9
  i10 : p10
structure A17 (p1 p2 p3 p4 p5 p6 p7 p8 p9 p10 p11 p12 p13 p14 p15 p16 p17 : Prop) : Prop where
  i1 : p1
  i2 : p2
  i3 : p3
  i4 : p4
  i5 : p5
  i6 : p6
  i7 : p7
  i8 : p8
  i9 : p9
  i10 : p10
  i11 : p11
  i12 : p12
  i13 : p13
  i14 : p14
  i15 : p15
  i16 : p16
  i17 : p17
section
variable {prog : Program} {w : World} {A : Around} {E : Value → Shared → Prop} {s : Shared} {h₀ : Heap} {L : Addr} {m : Str → Option Value} {env : Env}
def CompKEnd (h₀ : Heap) (L : Addr) (m : Str → Option Value) (s₁ : Shared) (I : Addr) (oI : Obj) (C : Addr) (oC : Obj) (D : Addr) (ys : List Value) (J : Value → List (Addr × Obj) → Nat → Prop) (y : Value) (s₂ : Shared) : Prop :=
  ∃ h' tk' nw', A5 (s₂ = { s₁ with heap := h', toks := tk' }) (Fr h₀ L h' m) (News h₀ L h' ((I, oI) :: (C, oC) :: (D, LCg.lst ys) :: nw')) (LCg.Off3 I C D nw') (J y nw' tk')
theorem CompKEnd.intro {s₁ : Shared} {I C D : Addr} {oI oC : Obj} {ys : List Value} {J : Value → List (Addr × Obj) → Nat → Prop} {y : Value} {h' : Heap} {tk' : Nat} (nw' : List (Addr × Obj)) (F : Fr h₀ L h' m) (N : News h₀ L h' ((I, oI) :: (C, oC) :: (D, LCg.lst ys) :: nw')) (o : LCg.Off3 I C D nw') (hJ : J y nw' tk') :
    CompKEnd h₀ L m s₁ I oI C oC D ys J y { s₁ with heap := h', toks := tk' } := ⟨h', tk', nw', rfl, F, N, o, hJ⟩
/-- a list comprehension over a list of the ledger, with an invariant that sees the count of tokens -/
def CompK (prog : Program) (w : World) (A : Around) (h₀ : Heap) (L : Addr) (m : Str → Option Value) (env : Env) (elt : PySem.Expr) (x : Str) (scope : Scope) (cl : List (Str × Addr)) (Q : Value → Shared → Prop) (xv : Value) (s₁ : Shared) : Prop :=
  ∃ (ax : Addr) (its : Array Value) (k : Nat) (news : List (Addr × Obj)) (J : Nat → List Value → List (Addr × Obj) → Nat → Prop), A10 (xv = .ref ax) (A.handled = none) (Fr h₀ L s₁.heap m) (News h₀ L s₁.heap news) (∀ i ys nw tk, J i ys nw tk → (ax, listOf its k) ∈ nw) (its.size ≤ sizeLine) (∀ i ys nw tk tk', tk ≤ tk' → J i ys nw tk → J i ys nw tk') (J 0 [] news s₁.toks) (∀ i v ys nw I oI C oC D m₂ h tk (E' : Value → Shared → Prop), its[i]? = some v → 1 ≤ tk → J i ys nw tk → oI.cls = .type "list_iterator" → LCg.NsObj oC m₂ → m₂ x = some v → Fr h₀ L h m → News h₀ L h ((I, oI) :: (C, oC) :: (D, LCg.lst ys) :: nw) → LCg.Off3 I C D nw → ((@Ne Nat I C) ∧ (@Ne Nat I D) ∧ (@Ne Nat C D)) →
      wpAny (model prog w) A (eval elt (compEnvC scope cl C env)) (CompKEnd h₀ L m s₁ I oI C oC D ys (fun y nw' tk' => J (i + 1) (ys ++ [y]) nw' tk')) E' { s₁ with heap := h, toks := tk }) (∀ ys nw D h tk, J its.size ys nw tk → Fr h₀ L h m → News h₀ L h ((D, LCg.lst ys) :: nw) → LCg.Off1 D nw → Q (.ref D) { s₁ with heap := h, toks := tk })
theorem ListComp_K {elt iter : PySem.Expr} {x : Str} {px : Pos} {scope : Scope} {cl : List (Str × Addr)} {pos : Pos} {Q : Value → Shared → Prop}
    (hclos : closureFor scope env = pure cl) (hcell : ∀ y ∈ scope.names, y.2 ≠ .cell) (hkind : scope.kind = .function)
    (hnames : ∀ y ∈ scope.names, y.2 = .local → scope.names.lookup y.1 = some .local) (hx : scope.names.lookup x = some .local)
    (h : wpAny (model prog w) A (eval iter env) (CompK prog w A h₀ L m env elt x scope cl Q) E s)
    (hs : ∀ x, foldedSetIterable iter env x = pure x := by intro _; rfl) :
    wpAny (model prog w) A (eval (.ListComp elt [⟨.Name x px, iter, [], 0⟩] scope pos) env) Q E s := by
  rw [eval_ListComp]
  refine wpAny_comprehension_free (use := none) rfl hs hclos hkind hnames (wpAny_mono h (fun xv s₁ h₁ => ?_) fun _ _ e => e)
  obtain ⟨ax, its, k, news, J, rfl, hh, F, N, hJm, hsz, hmono, hJ0, turn, fin⟩ := h₁
  have hax := N _ (hJm _ _ _ _ hJ0)
  have hl : s₁.heap.IsList ax its := ⟨_, hax.1, rfl, k, rfl⟩
  have hlt : ax < s₁.heap.objs.size := Heap.lt_size hax.1
  refine wpAny_pyIter_list hl ?_
  generalize hH1 : s₁.heap.push { cls := .type "list_iterator", data := .fields #[.ref ax, .int 0 0] } = H1
  have hH1s : H1.objs.size = s₁.heap.objs.size + 1 := by rw [← hH1, Heap.size_push]
  have up1 : ∀ b o, s₁.heap.get? b = some o → H1.get? b = some o := fun b o e => hH1 ▸ Heap.get?_push_of_some _ e
  have W : Walks prog w A s₁.heap.objs.size [s₁.heap.objs.size, ax] [s₁.heap.objs.size] its.size (fun i v => its[i]? = some v) (fun i h => h.IsListIter s₁.heap.objs.size ax i ∧ h.IsList ax its) := Walks.list hh s₁.heap.objs.size ax (Nat.ne_of_lt hlt) its
  have hI1 : H1.IsListIter s₁.heap.objs.size ax 0 := hH1 ▸ ⟨_, Heap.get?_push_size _ rfl, rfl, rfl⟩
  have hIlt : s₁.heap.objs.size < H1.objs.size := by rw [hH1s]; exact Nat.lt_succ_self _
  refine wpAny_newObj_type (wpAny_newFunctionEnv hcell (by intro y hy; simp at hy) (fun h₁ hns₁ hsb₁ => ?_) hkind)
  dsimp only at hns₁ hsb₁ ⊢
  generalize hH2 : H1.push { cls := .type "list", dict := none, data := .seq ([] : List Value).toArray } = H2 at hns₁ hsb₁ ⊢
  have hC : H2.objs.size = H1.objs.size + 1 := by rw [← hH2, Heap.size_push]
  generalize hIe : s₁.heap.objs.size = I at *
  generalize hDe : H1.objs.size = D at *
  have hCe : @Eq Nat H2.objs.size (I + 2) := by rw [hC, hH1s]
  generalize H2.objs.size = C at *
  have hID : @LT.lt Nat _ I D := hIlt
  have hDI1 : @Eq Nat D (I + 1) := hH1s
  have hlt' : @LT.lt Nat _ ax I := hlt
  have old : ∀ b o, s₁.heap.get? b = some o → h₁.get? b = some o := fun b o e => hsb₁.extBut b o (by have q : @LT.lt Nat _ b I := hIe ▸ Heap.lt_size e; intro h; have h' : @Eq Nat b C := h; omega) (Heap.get?_push_of_some _ (hH2 ▸ Heap.get?_push_of_some _ (up1 b o e)))
  have hacc : h₁.get? D = some (LCg.lst []) := hsb₁.extBut _ _ (by intro h; have h' : @Eq Nat D C := h; omega) (Heap.get?_push_of_some _ (hH2 ▸ (hDe ▸ Heap.get?_push_size _ rfl)))
  have hIit : h₁.IsListIter I ax 0 := by
    obtain ⟨o, e, r⟩ := hI1
    exact ⟨o, hsb₁.extBut _ _ (by intro h; have h' : @Eq Nat I C := h; omega) (Heap.get?_push_of_some _ (hH2 ▸ Heap.get?_push_of_some _ e)), r⟩
  have hst₁ : h₁.IsListIter I ax 0 ∧ h₁.IsList ax its := ⟨hIit, ⟨_, old _ _ hax.1, rfl, k, rfl⟩⟩
  have fresh₀ : ∀ a, @LE.le Nat _ I a → h₀.get? a = none := fun a ha => by
    cases e : h₀.get? a with
    | none => rfl
    | some o' => exact absurd (Heap.lt_size (F.keep a o' e)) (by rw [hIe]; exact Nat.not_lt.mpr ha)
  have hI₀ := fresh₀ I (Nat.le_refl _)
  have hD₀ := fresh₀ D (by omega)
  have hC₀ := fresh₀ C (by omega)
  have hLlt : @LT.lt Nat _ L I := hIe ▸ F.ns.lt
  have hIL : L ≠ I := fun h => by have h' : @Eq Nat L I := h; omega
  have hDL : D ≠ L := fun h => by have h' : @Eq Nat D L := h; omega
  have hCL : C ≠ L := fun h => by have h' : @Eq Nat C L := h; omega
  have hCI : I ≠ C := fun h => by have h' : @Eq Nat I C := h; omega
  have hDI : I ≠ D := fun h => by have h' : @Eq Nat I D := h; omega
  have hDC : D ≠ C := fun h => by have h' : @Eq Nat D C := h; omega
  have hCax : C ≠ ax := fun h => by have h' : @Eq Nat C ax := h; omega
  have hDax : D ≠ ax := fun h => by have h' : @Eq Nat D ax := h; omega
  have off₀ : LCg.Off3 I C D news := LCg.Off3.of fun p hp => by
    have q : @LT.lt Nat _ p.1 I := hIe ▸ Heap.lt_size (N p hp).1
    exact ⟨fun h => by have h' : @Eq Nat p.1 I := h; omega, fun h => by have h' : @Eq Nat p.1 C := h; omega, fun h => by have h' : @Eq Nat p.1 D := h; omega⟩
  have loop : ∀ s₃ : Shared, s₃ = { s₁ with heap := h₁, toks := s₁.toks + ([] : List (Str × Value)).length } →
      codeAny (model prog w) A (.compLoop (.ListComp elt [⟨.Name x px, iter, [], 0⟩] scope pos) 0 (.ref I) (.ref D) (compEnvC scope cl C env))
        (compPost (model prog w) A E none Q (.ref D) C) s₃ := by
    rintro s₃ rfl
    refine codeAny_compLoop_tests
      (fun c s' => ∃ h' tk i ys m' nw, A10 (s' = { s₁ with heap := h', toks := tk }) (i ≤ its.size) (c = its.size + 1 - i) (ys.length = i) (h'.IsListIter I ax i ∧ h'.IsList ax its) (Fr h₀ L h' m) (h'.Ns C m') (News h₀ L h' ((D, LCg.lst ys) :: nw)) (LCg.Off3 I C D nw) (J i ys nw tk)) ?_ (its.size + 1)
      ⟨h₁, _, 0, [], _, news, rfl, Nat.zero_le _, rfl, rfl, hst₁, F.keeps old, hns₁, fun p hp => ?_, off₀, hJ0⟩
    · rintro c s' ⟨h', tk, i, ys, m', nw, rfl, hi, rfl, hyl, hst', F', hn', N', off', hJ⟩
      have off3 := off'.mem
      by_cases hlti : i < its.size
      · refine wpAny_with_toks (n := tk) (Nat.le_refl _) (W.item i _ _ _ hlti hst' fun v h₂ tk₂ hPv hst₂ hk₂ htk₂ => ?_)
        refine wpAny_assign_Name (wpAny_storeName_local (lookup_relabel_local hx) (hn'.at' fun o e => hk₂ _ o (by simpa using Ne.symm hCI) e) (fun h₃ hn₃ hs₃ => ?_) (by simp [compEnvC, relabel, hkind]))
        refine wpAny_tests_nil ?_
        simp only [if_true]
        have hst₃ : h₃.IsListIter I ax (i + 1) ∧ h₃.IsList ax its := W.frame _ _ _ hst₂ fun b hb o e => hs₃.extBut b o (fun q => by
          have q' : b = C := q
          rcases List.mem_cons.mp hb with e1 | hb
          · exact hCI (e1.symm.trans q')
          · exact hCax (q'.symm.trans (List.mem_singleton.mp hb))) e
        obtain ⟨oI, heI, rI⟩ := hst₃.1
        obtain ⟨oC, heC, hoC⟩ := LCg.ns_obj hn₃
        have F₃ : Fr h₀ L h₃ m := (LCg.fr_but F' hk₂ hIL hI₀).change hs₃ hCL hC₀
        have N₂ : News h₀ L h₂ ((D, LCg.lst ys) :: nw) := LCg.news_but N' hk₂ fun p hp => by
          rcases List.mem_cons.mp hp with rfl | hp
          · exact Ne.symm hDI
          · exact (off3 p hp).1
        have N₃ : News h₀ L h₃ ((I, oI) :: (C, oC) :: (D, LCg.lst ys) :: nw) := fun p hp => by
          rcases List.mem_cons.mp hp with rfl | hp
          · exact ⟨heI, Ne.symm hIL, hI₀⟩
          rcases List.mem_cons.mp hp with rfl | hp
          · exact ⟨heC, hCL, hC₀⟩
          have z := N₂ p hp
          refine ⟨hs₃.extBut _ _ ?_ z.1, z.2⟩
          rcases List.mem_cons.mp hp with rfl | hp
          · exact hDC
          · exact (off3 p hp).2.1
        refine wpAny_mono (turn i v ys nw I oI C oC D _ h₃ _ _ hPv (Nat.succ_le_succ (Nat.zero_le _)) (hmono i ys nw tk _ (Nat.le_trans htk₂ (Nat.le_succ _)) hJ) rI.1 hoC (by simp) F₃ N₃ off' ⟨hCI, hDI, Ne.symm hDC⟩) (fun y s₄ h₄ => ?_) fun _ _ e => e
        obtain ⟨h₄, tk₄, nw₄, rfl, F₄, N₄, off₄, hJ₄⟩ := h₄
        have zI := (N₄ (I, oI) (.head _)).1
        have zC := (N₄ (C, oC) (.tail _ (.head _))).1
        have zD := (N₄ (D, LCg.lst ys) (.tail _ (.tail _ (.head _)))).1
        have N₄' : News h₀ L h₄ nw₄ := fun p hp => N₄ p (.tail _ (.tail _ (.tail _ hp)))
        have zA := (N₄' _ (hJm _ _ _ _ hJ₄)).1
        refine append_at (hsz := by show ys.toArray.size ≤ sizeLine; rw [List.size_toArray, hyl]; exact Nat.le_trans hi hsz) zD fun h₅ hs₅ hD₅ => ?_
        have off4 := off₄.mem
        refine ⟨its.size + 1 - (i + 1), by omega, h₅, tk₄, i + 1, ys ++ [y], _, nw₄, rfl, hlti, rfl, by rw [List.length_append, List.length_singleton, hyl],
          ⟨⟨oI, hs₅.extBut _ _ hDI zI, rI⟩, ⟨_, hs₅.extBut _ _ (Ne.symm hDax) zA, rfl, k, rfl⟩⟩, F₄.change hs₅ hDL hD₀, (hoC.ns zC).sameBut hs₅ (Ne.symm hDC), fun p hp => ?_, off₄, hJ₄⟩
        rcases List.mem_cons.mp hp with rfl | hp
        · exact ⟨hD₅.trans (congrArg some (LCg.lst_snoc ys y)), hDL, hD₀⟩
        · exact ⟨hs₅.extBut _ _ (off4 p hp).2.2 (N₄' p hp).1, (N₄' p hp).2⟩
      · obtain rfl : i = its.size := Nat.le_antisymm hi (Nat.not_lt.mp hlti)
        refine wpAny_with_toks (n := tk) (Nat.le_refl _) (W.done _ _ _ hst' fun h₂ tk₂ hk₂ htk₂ => ?_)
        have F₂ := LCg.fr_but F' hk₂ hIL hI₀
        have N₂ : News h₀ L h₂ ((D, LCg.lst ys) :: nw) := LCg.news_but N' hk₂ fun p hp => by
          rcases List.mem_cons.mp hp with rfl | hp
          · exact Ne.symm hDI
          · exact (off3 p hp).1
        refine ⟨m', hn'.at' fun o e => hk₂ _ o (by simpa using Ne.symm hCI) e, fun h'' hs'' => fin ys nw D h'' tk₂ (hmono _ _ _ _ _ htk₂ hJ) (F₂.change hs'' hCL hC₀) (fun p hp => ?_) off'.one⟩
        refine ⟨hs''.extBut _ _ ?_ (N₂ p hp).1, (N₂ p hp).2⟩
        rcases List.mem_cons.mp hp with rfl | hp
        · exact hDC
        · exact (off3 p hp).2.1
    · rcases List.mem_cons.mp hp with rfl | hp
      · exact ⟨hacc, hDL, hD₀⟩
      · exact ⟨old _ _ (N p hp).1, (N p hp).2⟩
  exact codeAny_compStart_list (loop _ rfl) (W.self 0 _ _ _ hst₁ (loop _ rfl))
end
section
variable {prog : Program} {w : World} {A : Around} {E : Value → Shared → Prop} {s : Shared} {h₀ : Heap} {env : Env}
def ForEnd (h₀ : Heap) (L : Addr) (s₁ : Shared) (I : Addr) (oI : Obj) (J : (Str → Option Value) → List (Addr × Obj) → Nat → Prop) (Q : Flow → Shared → Prop) (f : Flow) (s₃ : Shared) : Prop := match f with
  | .ret v => Q (.ret v) s₃
  | .brk => Q .next s₃
  | _ => ∃ h' tk' m' nw', A5 (s₃ = { s₁ with heap := h', toks := tk' }) (Fr h₀ L h' m') (News h₀ L h' ((I, oI) :: nw')) (∀ p ∈ nw', @Ne Nat p.1 I) (J m' nw' tk')
theorem ForEnd.intro {L : Addr} {s₁ : Shared} {I : Addr} {oI : Obj} {J : (Str → Option Value) → List (Addr × Obj) → Nat → Prop} {Q : Flow → Shared → Prop} {h' : Heap} {tk' : Nat} {m' : Str → Option Value} (nw' : List (Addr × Obj)) (F : Fr h₀ L h' m') (N : News h₀ L h' ((I, oI) :: nw')) (o : ∀ p ∈ nw', @Ne Nat p.1 I) (hJ : J m' nw' tk') :
    ForEnd h₀ L s₁ I oI J Q .next { s₁ with heap := h', toks := tk' } := ⟨h', tk', m', nw', rfl, F, N, o, hJ⟩
/-- a for loop over a list of the ledger, with an invariant that sees the count of tokens -/
def ForK (prog : Program) (w : World) (A : Around) (h₀ : Heap) (env : Env) (target : PySem.Expr) (body : List Stmt) (Q : Flow → Shared → Prop) (E : Value → Shared → Prop) (xv : Value) (s₁ : Shared) : Prop :=
  ∃ (ax : Addr) (its : Array Value) (k : Nat) (m : Str → Option Value) (news : List (Addr × Obj)) (J : Nat → (Str → Option Value) → List (Addr × Obj) → Nat → Prop), A9 (xv = .ref ax) (A.handled = none) (Fr h₀ env.locals s₁.heap m) (News h₀ env.locals s₁.heap news) (∀ i m' nw tk, J i m' nw tk → (ax, listOf its k) ∈ nw) (∀ i m' nw tk tk', tk ≤ tk' → J i m' nw tk → J i m' nw tk') (J 0 m news s₁.toks) (∀ i v m₁ nw I oI h tk, its[i]? = some v → J i m₁ nw tk → oI.cls = .type "list_iterator" → (∀ p ∈ nw, @Ne Nat p.1 I) → Fr h₀ env.locals h m₁ → News h₀ env.locals h ((I, oI) :: nw) →
      wpAny (model prog w) A (assign target env v) (fun _ s₂ => wpAny (model prog w) A (execs body env) (ForEnd h₀ env.locals s₁ I oI (J (i + 1)) Q) E s₂) E { s₁ with heap := h, toks := tk }) (∀ m' nw h tk, J its.size m' nw tk → Fr h₀ env.locals h m' → News h₀ env.locals h nw → Q .next { s₁ with heap := h, toks := tk })
theorem For_K {target iter : PySem.Expr} {body : List Stmt} {pos : Pos} {Q : Flow → Shared → Prop}
    (h : wpAny (model prog w) A (eval iter env) (ForK prog w A h₀ env target body Q E) E s)
    (hs : ∀ x, foldedSetIterable iter env x = pure x := by intro _; rfl)
    (hE : PassesOwn (model prog w) A env E := by passes_own) :
    wpAny (model prog w) A (exec (.For target iter body [] pos) env) Q E s := by
  refine wpAny_For (wpAny_mono h (fun xv s₁ h₁ => ?_) fun _ _ e => e) hs
  obtain ⟨ax, its, k, m, news, J, rfl, hh, F, N, hJm, hmono, hJ0, turn, fin⟩ := h₁
  have hax := N _ (hJm _ _ _ _ hJ0)
  have hl : s₁.heap.IsList ax its := ⟨_, hax.1, rfl, k, rfl⟩
  have hlt : ax < s₁.heap.objs.size := Heap.lt_size hax.1
  refine wpAny_pyIter_list hl ?_
  have W : Walks prog w A s₁.heap.objs.size [s₁.heap.objs.size, ax] [s₁.heap.objs.size] its.size (fun i v => its[i]? = some v) (fun i h => h.IsListIter s₁.heap.objs.size ax i ∧ h.IsList ax its) := Walks.list hh s₁.heap.objs.size ax (Nat.ne_of_lt hlt) its
  have up : ∀ b o, s₁.heap.get? b = some o → (s₁.heap.push { cls := .type "list_iterator", data := .fields #[.ref ax, .int 0 0] }).get? b = some o := fun b o e => Heap.get?_push_of_some _ e
  have hst0 : (s₁.heap.push { cls := .type "list_iterator", data := .fields #[.ref ax, .int 0 0] }).IsListIter s₁.heap.objs.size ax 0 := ⟨_, Heap.get?_push_size _ rfl, rfl, rfl⟩
  have hI₀ : h₀.get? s₁.heap.objs.size = none := next_is_new F
  have hIL : env.locals ≠ s₁.heap.objs.size := Nat.ne_of_lt F.ns.lt
  have off₀ : ∀ p ∈ news, @Ne Nat p.1 s₁.heap.objs.size := fun p hp => Nat.ne_of_lt (Heap.lt_size (N p hp).1)
  generalize s₁.heap.objs.size = I at *
  refine codeAny_forLoop_any
    (fun c s' => ∃ h' tk i m' nw, A8 (s' = { s₁ with heap := h', toks := tk }) (i ≤ its.size) (c = its.size + 1 - i) (h'.IsListIter I ax i ∧ h'.IsList ax its) (Fr h₀ env.locals h' m') (News h₀ env.locals h' nw) (∀ p ∈ nw, @Ne Nat p.1 I) (J i m' nw tk)) ?_ (its.size + 1)
    ⟨_, s₁.toks, 0, m, news, rfl, Nat.zero_le _, rfl, ⟨hst0, hl.push _⟩, F.keeps up, N.grown up, off₀, hJ0⟩
  rintro c s' ⟨h', tk, i, m', nw, rfl, hi, rfl, hst', F', N', off', hJ⟩
  by_cases hlti : i < its.size
  · refine wpAny_with_toks (n := tk) (Nat.le_refl _) (W.item i _ _ _ hlti hst' fun v h₂ tk₂ hPv hst₂ hk₂ htk₂ => ?_)
    refine letGo_listiter hst₂.1 ?_
    obtain ⟨oI, heI, cI, rI⟩ := hst₂.1
    have F₂ := LCg.fr_but F' hk₂ hIL hI₀
    have N₂ : News h₀ env.locals h₂ nw := LCg.news_but N' hk₂ off'
    have N₃ : News h₀ env.locals h₂ ((I, oI) :: nw) := fun p hp => by
      rcases List.mem_cons.mp hp with rfl | hp
      · exact ⟨heI, Ne.symm hIL, hI₀⟩
      · exact N₂ p hp
    refine wpAny_mono (turn i v m' nw I oI h₂ tk₂ hPv (hmono _ _ _ _ _ htk₂ hJ) cI off' F₂ N₃) (fun _ s₃ x => wpAny_mono (wpAny_passesOwn hE x) (fun f s₄ h₄ => ?_) fun _ _ e => e) hE
    have keep : (∃ h' tk' m' nw', A5 (s₄ = { s₁ with heap := h', toks := tk' }) (Fr h₀ env.locals h' m') (News h₀ env.locals h' ((I, oI) :: nw')) (∀ p ∈ nw', @Ne Nat p.1 I) (J (i + 1) m' nw' tk')) →
        ∃ c, c < its.size + 1 - i ∧ ∃ h' tk j m' nw, A8 (s₄ = { s₁ with heap := h', toks := tk }) (j ≤ its.size) (c = its.size + 1 - j) (h'.IsListIter I ax j ∧ h'.IsList ax its) (Fr h₀ env.locals h' m') (News h₀ env.locals h' nw) (∀ p ∈ nw, @Ne Nat p.1 I) (J j m' nw tk) := by
      rintro ⟨h₅, tk₅, m₅, nw₅, rfl, F₅, N₅, off₅, hJ₅⟩
      have zA := (N₅ _ (.tail _ (hJm _ _ _ _ hJ₅))).1
      exact ⟨its.size + 1 - (i + 1), by omega, h₅, tk₅, i + 1, m₅, nw₅, rfl, hlti, rfl, ⟨⟨oI, (N₅ _ (.head _)).1, cI, rI⟩, ⟨_, zA, rfl, k, rfl⟩⟩, F₅, fun p hp => N₅ p (.tail _ hp), off₅, hJ₅⟩
    cases f with
    | ret v => exact h₄
    | brk => exact h₄
    | next => exact keep h₄
    | cont => exact keep h₄
  · obtain rfl : i = its.size := Nat.le_antisymm hi (Nat.not_lt.mp hlti)
    refine wpAny_with_toks (n := tk) (Nat.le_refl _) (W.done _ _ _ hst' fun h₂ tk₂ hk₂ htk₂ => wpAny_execs_nil ?_)
    exact fin m' nw h₂ tk₂ (hmono _ _ _ _ _ htk₂ hJ) (LCg.fr_but F' hk₂ hIL hI₀) (LCg.news_but N' hk₂ off')
end
/-! part PgS -/
theorem For_KF {prog : Program} {w : World} {A : Around} {E : Value → Shared → Prop} {s : Shared} {h₀ : Heap} {env : Env} {m : Str → Option Value} {target iter : PySem.Expr} {body : List Stmt} {pos : Pos} {Q : Flow → Shared → Prop} (_F : Fr h₀ env.locals s.heap m)
    (h : wpAny (model prog w) A (eval iter env) (ForK prog w A h₀ env target body Q E) E s)
    (hs : ∀ x, foldedSetIterable iter env x = pure x := by intro _; rfl)
    (hE : PassesOwn (model prog w) A env E := by passes_own) :
    wpAny (model prog w) A (exec (.For target iter body [] pos) env) Q E s := For_K h hs hE
theorem noneBooked {w : World} {h₀ h : Heap} {L : Addr} {m : Str → Option Value} (X : (Mine.hd.heap_39 w.params).In h₀) (F : Fr h₀ L h m) : NoneBooked h := by
  have e := X cStatics _ rfl
  exact ⟨fun _ => none, ⟨_, #[], _, F.keep _ _ e, rfl, by intro x hx; simp at hx, fun _ => rfl⟩, rfl⟩
theorem is_other {prog : Program} {w : World} {A : Around} {E : Value → Shared → Prop} {s : Shared} {x y : Str} {t u : Tok} {Q : Value → Shared → Prop} (ht : @LE.le Nat _ 1 t) (hu : @LT.lt Nat _ t u) (hne : (x == y) = false) (h : Q (.bool false) s) :
    wpAny (model prog w) A (compareOp .Is (.str x t) (.str y u)) Q E s := by
  show wpAny (model prog w) A (do return .bool (← isSame (.str x t) (.str y u))) Q E s
  have g1 : @Ne Nat t 0 := by omega
  have h1 : ((t : Nat) == 0) = false := beq_eq_false_iff_ne.mpr g1
  have g2 : @Ne Nat u 0 := by omega
  have h2 : ((u : Nat) == 0) = false := beq_eq_false_iff_ne.mpr g2
  have g3 : @Ne Nat t u := by omega
  have h3 : ((t : Nat) == u) = false := beq_eq_false_iff_ne.mpr g3
  rw [isSame_str_other x y t u (by show ((t : Nat) == 0 || (u : Nat) == 0) = false; rw [h1, h2]; rfl) h3 hne]
  exact wpAny_bind (wpAny_pure (wpAny_pure h))
theorem is_any {prog : Program} {w : World} {A : Around} {E : Value → Shared → Prop} {s : Shared} {x y : Str} {t u : Tok} {Q : Value → Shared → Prop} (ht : @LE.le Nat _ 1 t) (hu : @LT.lt Nat _ t u) (hb : NoneBooked s.heap) (h : ∀ b, Q (.bool b) s) :
    wpAny (model prog w) A (compareOp .Is (.str x t) (.str y u)) Q E s := by
  show wpAny (model prog w) A (do return .bool (← isSame (.str x t) (.str y u))) Q E s
  have g1 : @Ne Nat t 0 := by omega
  have h1 : ((t : Nat) == 0) = false := beq_eq_false_iff_ne.mpr g1
  have g2 : @Ne Nat u 0 := by omega
  have h2 : ((u : Nat) == 0) = false := beq_eq_false_iff_ne.mpr g2
  exact wpAny_bind (wpAny_isSame_str (by show ((t : Nat) == 0 || (u : Nat) == 0) = false; rw [h1, h2]; rfl) hb fun b => wpAny_pure (h b))
section
variable {prog : Program} {w : World} {p : Program} {loose : List Str} {mean : ExcName → Option Value} {mg mb : Str → Option Value}
    {dp un : Nat} {gd : Option (List Code)} {cn : Str} {cs : Scope} {a : Addr} {ccd : Value} {cl : List (Str × Addr)} {outer : List Env} {A₀ : Around} {base h₀ : Heap} {L : Addr} {m : Str → Option Value} {s : Shared} {Q E : Value → Shared → Prop} {news : List (Addr × Obj)}
/-- words with tokens below a bound -/
structure WsT (N0 : Nat) (vs : List Value) (bs : List Bool) : Prop where
  len : vs.length = bs.length
  all : ∀ (i : Nat) (v : Value) (b : Bool), vs[i]? = some v → bs[i]? = some b → ∃ t, v = .str (wd b) t ∧ Okt t N0
theorem count_t {Ra : Addr} {vs : List Value} {bs : List Bool} {nR : Nat} {u : Tok} {N0 : Nat}
    (B : Below A₀ base outer h₀) (F : Fr h₀ L s.heap m) (X : (Mine.hd.heap_39 w.params).In h₀) (N : News h₀ L s.heap news) (T : Top p loose mean mg mb h₀) (hk : cs.kind = .function)
    (hR : (Ra, listOf vs.toArray nR) ∈ news) (hW : WsT N0 vs bs) (hu : @LE.le Nat _ N0 u)
    (hdp : dp + 2 < recursionLimit) (hun : un + 16 < cLine)
    (hret : ∀ (t' : Tok) (h' : Heap) (tk' : Nat) (news' : List (Addr × Obj)), Fr h₀ L h' m → News h₀ L h' news' → (∀ q ∈ news, q ∈ news') → Q (.int ((bs.count true : Nat) : Int) t') { s with heap := h', toks := tk' }) :
    wpAny (model prog w) (ktrTop dp un gd cn cs L a ccd cl outer) (call (.ref 91) [.ref Ra, .str (Str.ofString "add") u]) Q E s := by
  k_with_none
  w_top off
  k_with "call builtin:list.pop" => (k_here; (with_reducible show wpAny _ _ (call (Value.builtin _) [Value.ref _, Value.int 0 _]) _ _ _); k_dflt (refine pop0 (by k_asm) (by k_asm) (by k_upd) (by assumption) ?_); intro _ _ _)
  k_with "truthy ref" => (k_here; k_dflt (refine truthyCons (by k_asm) (by k_mem) (by assumption) ?_); (try rw [if_pos rfl]))
  k_with "call builtin:len" => (k_here; (with_reducible show wpAny _ _ (call (Value.builtin "len") [Value.ref _]) _ _ _); k_dflt (refine lenLed (by k_asm) (by k_mem) (by first | assumption | (simp only [List.length_cons, List.length_nil]; omega)) ?_))
  k_with "call builtin:iter" => (k_here; (with_reducible show wpAny _ _ (call (Value.builtin "iter") [Value.ref _, Value.str _ _]) _ _ _); k_dflt (refine iter2 (by k_asm) (by k_asm) (by k_mem) ?_); intro _ _ _ _ lz9; (try k_lt lz9))
  k_with "ite" => first | refine iteT (by with_reducible assumption) ?_ | refine iteF (by with_reducible assumption) ?_
  k_with "exec For Name Name cons nil" => refine hold ?_
  k_with "ForK" => refine hold ?_
  k_with "compareOp Is str str" => refine hold ?_
  refine wpAny_call ?_
  k_dflt cell_enter
  k_steps
  refine Hold.out ?_
  (rename Fr _ _ _ _ => lF')
  with_unfolding_all refine For_KF lF' ?_
  k_steps
  refine Hold.out ⟨Ra, vs.toArray, nR, _, news, fun i m₁ nw tk => ∃ tc, m₁ (Str.ofString "b") = some (.str (Str.ofString "add") u) ∧ m₁ (Str.ofString "count") = some (.int (((bs.take i).count true : Nat) : Int) tc) ∧ (∀ q ∈ news, q ∈ nw), rfl, by rfl, by k_asm, by k_asm, fun i m₁ nw tk ⟨_, _, _, h⟩ => h _ hR, fun _ _ _ _ _ _ h => h, ⟨_, rfl, rfl, fun _ h => h⟩, ?_, ?_⟩
  · intro i v m₁ nw I oI h tk hv hJ hcI hoff F₁ N₁
    obtain ⟨tc, mb1, mc1, hsub⟩ := hJ
    rw [List.getElem?_toArray] at hv
    have hi : i < vs.length := (List.getElem?_eq_some_iff.mp hv).1
    have hib : i < bs.length := hW.len ▸ hi
    have hbi : bs[i]? = some bs[i] := List.getElem?_eq_getElem hib
    generalize bs[i] = b at hbi
    obtain ⟨t, rfl, hot⟩ := hW.all i v b hv hbi
    have hcnt : (bs.take (i + 1)).count true = (bs.take i).count true + (if b = true then 1 else 0) := by
      rw [List.take_add_one, hbi, Option.toList, List.count_append]
      cases b <;> rfl
    have F2 := frMap (m' := fun z => if z = Str.ofString "b" then some (.str (Str.ofString "add") u) else if z = Str.ofString "count" then some (.int (((bs.take i).count true : Nat) : Int) tc) else m₁ z) F₁ (fun z => by
      by_cases h1 : z = Str.ofString "b"
      · rw [if_pos h1, h1, mb1]
      · rw [if_neg h1]
        by_cases h2 : z = Str.ofString "count"
        · rw [if_pos h2, h2, mc1]
        · rw [if_neg h2])
    clear F₁
    k_steps
    have htu : @LT.lt Nat _ t u := Nat.lt_of_lt_of_le hot.2 hu
    cases b with
    | false =>
      refine Hold.out (is_other hot.1 htu (by decide) ?_)
      have hc2 : (bs.take (i + 1)).count true = (bs.take i).count true := by rw [hcnt, if_neg Bool.false_ne_true]; rfl
      k_steps
      exact ForEnd.intro nw (by k_asm) (by k_asm) hoff ⟨_, rfl, (by rw [hc2]; rfl), hsub⟩
    | true =>
      refine Hold.out (is_any hot.1 htu (noneBooked (by assumption) (by assumption)) fun b => ?_)
      have hc2 : (((bs.take (i + 1)).count true : Nat) : Int) = (((bs.take i).count true : Nat) : Int) + 1 := by rw [hcnt, if_pos rfl]; rfl
      cases b <;> k_steps
      · exact ForEnd.intro nw (by k_asm) (by k_asm) hoff ⟨_, rfl, (by rw [hc2]; rfl), hsub⟩
      · exact ForEnd.intro nw (by k_asm) (by k_asm) hoff ⟨_, rfl, (by rw [hc2]; rfl), hsub⟩
  · intro m₁ nw h tk hJ F₁ N₁
    obtain ⟨tc, mb1, mc1, hsub⟩ := hJ
 
    have F2 := frMap (m' := fun z => if z = Str.ofString "count" then some (.int (((bs.take vs.toArray.size).count true : Nat) : Int) tc) else m₁ z) F₁ (fun z => by
      by_cases h2 : z = Str.ofString "count"
      · rw [if_pos h2, h2, mc1]
      · rw [if_neg h2])
    clear F₁
    k_steps
    rw [List.size_toArray, hW.len, List.take_length]
    exact hret _ _ _ _ (by k_asm) (by k_asm) hsub
end
/-! part PgT -/
local macro_rules | `(tactic| walk_at "enterC") => `(tactic| (refine' code_defC ?k1 ?k2 ?k3 ?k4 ?k5 ?kA ?kF ?kK ?k6 ?k7 ?k8 ?k9 ?kB ?kD ?_ ?c2 ?c3 ?c4; (case kA => exact rfl); (case kF => exact rfl); (case kK => first | exact rfl | assumption); (case k1 => k_asm); (case k2 => k_asm); (case k3 => k_asm); (case k4 => k_asm); (case k5 => k_asm); (case k6 => k_is); (case k7 => k_is); (case k8 => ktr_room); (case k9 => exact BindsTo.of_eq rfl); (case kB => exact rfl); (case kD => decide +kernel); (case c2 => exact rfl); (case c3 => exact rfl); (case c4 => exact rfl); k_whole; intro g' L' h' tk' cells' FG' F' N' Y' B' X' T' l1; (try k_lt l1); k_cells Y'; (try simp only [List.cons_append, List.nil_append] at N'); (try dsimp only); (try k_lift B'); (try k_fold)))
theorem staOf {P : Params} {h₀ h : Heap} {L f cell cod lf S dS q : Addr} {pm ct : Value} {oc ol lo : Obj} {vs : Array Value} {tq u1 u2 u3 u4 u5 u6 u7 : Tok} {a b sc p} {qq : Str} {o3 : Option Value} {rest : List (Addr × Obj)}
    (N : News h₀ L h ((f, kla_obj (Str.ofString "<lambda>") qq a b sc [(Str.ofString "left", cell)] pm cod ct) :: (cod, oc) :: (q, lo) :: (S, instObj 52 dS) :: (dS, strDict P u1 u2 u3 u4 u5 u6 u7 q f) :: (cell, ol) :: rest))
    (he : lamE = .Lambda a b sc p) (hq : qq = qualL) (d1 : oc.data = .fields vs) (d2 : vs[1]? = some (.str qualL tq)) (d3 : ol.data = .cell o3) (e3 : o3 = some (.ref lf)) :
    StaIn P ⟨f, cell, cod, lf, S, dS, q, pm, ct, oc, ol, vs, tq, u1, u2, u3, u4, u5, u6, u7⟩ ((f, kla_obj (Str.ofString "<lambda>") qq a b sc [(Str.ofString "left", cell)] pm cod ct) :: (cod, oc) :: (q, lo) :: (S, instObj 52 dS) :: (dS, strDict P u1 u2 u3 u4 u5 u6 u7 q f) :: (cell, ol) :: rest) :=
  ⟨by rw [lamObj_eq he, hq]; exact .head _, .tail _ (.head _), .tail _ (.tail _ (.tail _ (.tail _ (.tail _ (.head _))))), .tail _ (.tail _ (.tail _ (.head _))), .tail _ (.tail _ (.tail _ (.tail _ (.head _)))), d1, d2, by rw [d3, e3]⟩
section
variable {prog : Program} {w : World} {p : Program} {loose : List Str} {mean : ExcName → Option Value} {mg mb : Str → Option Value}
    {dp un : Nat} {gd : Option (List Code)} {cn : Str} {cs : Scope} {a : Addr} {ccd : Value} {cl : List (Str × Addr)} {outer : List Env} {A₀ : Around} {base h₀ : Heap} {L : Addr} {m : Str → Option Value} {s : Shared} {Q E : Value → Shared → Prop} {news : List (Addr × Obj)}
theorem stream_c {lf : Addr} {cs' : List Value} {n : Nat} {rest : List (Addr × Obj)}
    (B : Below A₀ base outer h₀) (F : Fr h₀ L s.heap m) (X : (Mine.hd.heap_39 w.params).In h₀) (CH : CodeHd base 104 100)
    (N : News h₀ L s.heap ((lf, listOf cs'.toArray n) :: (100, tabObj #[]) :: rest)) (T : Top p loose mean mg mb h₀) (hk : cs.kind = .function)
    (hlf : @LT.lt Nat _ 100 lf) (hrest : ∀ q ∈ rest, q.1 ≠ 100)
    (hdp : dp + 3 < recursionLimit) (hun : un + 30 < cLine)
    (hret : ∀ (σ : Sta) (h' : Heap) (tk' : Nat) (news' : List (Addr × Obj)), Fr h₀ L h' m → News h₀ L h' news' → (lf, listOf cs'.toArray n) ∈ news' → (∀ q ∈ rest, q ∈ news') → (∃ xs, (100, tabObj xs) ∈ news') → StaIn w.params σ news' → σ.lf = lf → Q (.ref σ.S) { s with heap := h', toks := tk' }) :
    wpAny (model prog w) (ktrTop dp un gd cn cs L a ccd cl outer) (call (.ref 105) [.ref lf]) Q E s := by
  k_with_none
  w_top off
  k_with "call builtin:list.pop" => (k_here; (with_reducible show wpAny _ _ (call (Value.builtin _) [Value.ref _, Value.int 0 _]) _ _ _); k_dflt (refine pop0 (by k_asm) (by k_asm) (by k_upd) (by assumption) ?_); intro _ _ _)
  k_with "truthy ref" => (k_here; k_dflt (refine truthyCons (by k_asm) (by k_mem) (by assumption) ?_); (try rw [if_pos rfl]))
  k_with "call builtin:len" => (k_here; (with_reducible show wpAny _ _ (call (Value.builtin "len") [Value.ref _]) _ _ _); k_dflt (refine lenLed (by k_asm) (by k_mem) (by first | assumption | (simp only [List.length_cons, List.length_nil]; omega)) ?_))
  k_with "call builtin:iter" => (k_here; (with_reducible show wpAny _ _ (call (Value.builtin "iter") [Value.ref _, Value.str _ _]) _ _ _); k_dflt (refine iter2 (by k_asm) (by k_asm) (by k_mem) ?_); intro _ _ _ _ lz9; (try k_lt lz9))
  refine wpAny_call ?_
  k_dflt walk_at "enterC"
  k_steps
  (rename News h₀ L _ _ => kN)
  exact hret _ _ _ _ (by assumption) kN (.tail _ (.tail _ (.tail _ (.tail _ (.tail _ (.tail _ (.head _))))))) (fun q hq => .tail _ (.tail _ (.tail _ (.tail _ (.tail _ (.tail _ (.tail _ (.tail _ hq)))))))) ⟨_, .tail _ (.tail _ (.tail _ (.tail _ (.tail _ (.tail _ (.tail _ (.head _)))))))⟩ (staOf kN rfl rfl (by assumption) (by assumption) (by assumption) rfl) rfl
theorem stream_t {lf : Addr} {cs' : List Value} {n : Nat}
    (B : Below A₀ base outer h₀) (F : Fr h₀ L s.heap m) (X : (Mine.hd.heap_39 w.params).In h₀) (CH : CodeHd base 104 100)
    (N : News h₀ L s.heap news) (T : Top p loose mean mg mb h₀) (hk : cs.kind = .function)
    (hl : (lf, listOf cs'.toArray n) ∈ news) (h100 : (100, tabObj #[]) ∈ news) (hlf : @LT.lt Nat _ 100 lf)
    (hdp : dp + 3 < recursionLimit) (hun : un + 30 < cLine)
    (hret : ∀ (σ : Sta) (h' : Heap) (tk' : Nat) (news' : List (Addr × Obj)), Fr h₀ L h' m → News h₀ L h' news' → (lf, listOf cs'.toArray n) ∈ news' → Keep [100] news news' → (∃ xs, (100, tabObj xs) ∈ news') → StaIn w.params σ news' → σ.lf = lf → Q (.ref σ.S) { s with heap := h', toks := tk' }) :
    wpAny (model prog w) (ktrTop dp un gd cn cs L a ccd cl outer) (call (.ref 105) [.ref lf]) Q E s :=
  stream_c (rest := news.filter fun q => decide (q.1 ≠ 100)) B F X CH (fun p hp => by
    rcases List.mem_cons.mp hp with rfl | hp
    · exact N _ hl
    rcases List.mem_cons.mp hp with rfl | hp
    · exact N _ h100
    · exact N _ (List.mem_filter.mp hp).1) T hk hlf (fun q hq => of_decide_eq_true (List.mem_filter.mp hq).2) hdp hun fun σ h' tk' news' F' N' hl' hr ht St e =>
    hret σ h' tk' news' F' N' hl' (fun p hp hn => hr p (List.mem_filter.mpr ⟨hp, decide_eq_true fun q => hn (by rw [q]; exact .head _)⟩)) ht St e
end
/-! part PgU -/
theorem allLt_lt {d : Addr} : ∀ {l : List (Addr × Obj)}, AllLt d l → ∀ p ∈ l, @LT.lt Nat _ p.1 d
  | [], _, _, h => nomatch h
  | _ :: _, x, p, h => by
    rcases List.mem_cons.mp h with rfl | h
    · exact x.1
    · exact allLt_lt x.2 p h
section
variable {prog : Program} {w : World} {p : Program} {loose : List Str} {mean : ExcName → Option Value} {mg mb : Str → Option Value}
    {dp un : Nat} {gd : Option (List Code)} {cn : Str} {cs : Scope} {a : Addr} {ccd : Value} {cl : List (Str × Addr)} {outer : List Env} {A₀ : Around} {base h₀ : Heap} {L : Addr} {m : Str → Option Value} {s : Shared} {Q E : Value → Shared → Prop} {news : List (Addr × Obj)}
theorem new_t {S : Addr}
    (B : Below A₀ base outer h₀) (F : Fr h₀ L s.heap m) (X : (Mine.hd.heap_39 w.params).In h₀)
    (N : News h₀ L s.heap news) (T : Top p loose mean mg mb h₀) (hk : cs.kind = .function)
    (hdp : dp + 3 < recursionLimit) (hun : un + 30 < cLine)
    (hret : ∀ (ρ : Rm) (h' : Heap) (tk' : Nat) (news' : List (Addr × Obj)), Fr h₀ L h' m → News h₀ L h' news' → (∀ q ∈ news, q ∈ news') → RmIn w.params S ρ 1 [] news' → (∀ p ∈ news, @LT.lt Nat _ p.1 ρ.r ∧ @LT.lt Nat _ p.1 ρ.d ∧ @LT.lt Nat _ p.1 ρ.pb) → Q (.ref ρ.r) { s with heap := h', toks := tk' }) :
    wpAny (model prog w) (ktrTop dp un gd cn cs L a ccd cl outer) (call (.ref 52) [.ref S]) Q E s := by
  k_with_none
  w_top off
  k_with "call builtin:list.pop" => (k_here; (with_reducible show wpAny _ _ (call (Value.builtin _) [Value.ref _, Value.int 0 _]) _ _ _); k_dflt (refine pop0 (by k_asm) (by k_asm) (by k_upd) (by assumption) ?_); intro _ _ _)
  k_with "truthy ref" => (k_here; k_dflt (refine truthyCons (by k_asm) (by k_mem) (by assumption) ?_); (try rw [if_pos rfl]))
  k_with "call builtin:len" => (k_here; (with_reducible show wpAny _ _ (call (Value.builtin "len") [Value.ref _]) _ _ _); k_dflt (refine lenLed (by k_asm) (by k_mem) (by first | assumption | (simp only [List.length_cons, List.length_nil]; omega)) ?_))
  k_with "call builtin:iter" => (k_here; (with_reducible show wpAny _ _ (call (Value.builtin "iter") [Value.ref _, Value.str _ _]) _ _ _); k_dflt (refine iter2 (by k_asm) (by k_asm) (by k_mem) ?_); intro _ _ _ _ lz9; (try k_lt lz9))
  k_dflt (refine' call_cls ?k1 ?k2 ?k3 ?k4 ?k5 ?k6 ?_; (case k1 => k_asm); (case k2 => k_asm); (case k3 => k_asm); (case k4 => k_is); (case k5 => k_is); (case k6 => k_is); k_whole)
  intro x' d' h' F' N' l1 l2
  have l1c := hold l1
  have l2c := hold l2
  (try k_lt l1)
  (try k_lt2 l2)
  k_sweep
  k_dflt cell_enter
  k_steps
  (rename News h₀ L _ _ => kN)
  (rename _ ∧ _ ∧ AllLt _ news => l3)
  have l3c := allLt_lt l3.2.2
  exact hret ⟨x', d', _, _, _, _, _, _⟩ _ _ _ (by assumption) kN (fun q hq => .tail _ (.tail _ (.tail _ hq))) ⟨.tail _ (.head _), ⟨_, .tail _ (.tail _ (.head _))⟩, ⟨0, .head _⟩⟩ (fun p hp => ⟨Nat.lt_trans (l1c p hp) l2c, l1c p hp, l3c p hp⟩)
end
/-! part PgV -/
def scOf : PySem.Stmt → PySem.Scope
  | .FunctionDef _ _ _ _ _ _ sc _ _ _ => sc
  | _ => default
def lawS : PySem.Stmt := (PySem.Challenge.pw_pg0063_01.main.body.find? (isFun (Str.ofString "law"))).getD default
def lawB : List PySem.Stmt := stmtsOf lawS
def lawSc : PySem.Scope := scOf lawS
abbrev lawEnv (L fa : Addr) (cd : Value) : Env := envOfC (Str.ofString "law") lawSc L fa cd
def LawEnd (g : Heap) (L : Addr) (s : Shared) (f : Flow) (s' : Shared) : Prop := f = .ret (.bool true) ∧ ∃ h' tk' m' news' xs, s' = { s with heap := h', toks := tk' } ∧ Fr g L h' m' ∧ News g L h' news' ∧ (100, tabObj xs) ∈ news'
/-- a cell of the law, with what it holds -/
def CellIn (c : Addr) (v : Option Value) (news : List (Addr × Obj)) : Prop := ∃ o, (c, o) ∈ news ∧ o.data = .cell v
theorem size_pos (n : Nat) : ∃ k : Nat, 5 - (n : Int).fmod 4 = (k : Int) ∧ 2 ≤ k ∧ k ≤ 5 := by
  have h1 := Int.fmod_lt_of_pos (n : Int) (show (0 : Int) < 4 by decide)
  have h2 := Int.fmod_nonneg_of_pos (n : Int) (show (0 : Int) < 4 by decide)
  exact ⟨(5 - (n : Int).fmod 4).toNat, by omega, by omega, by omega⟩
theorem itemTup2 {prog : Program} {w : World} {A : Around} {E : Value → Shared → Prop} {s : Shared} {h₀ : Heap} {L D : Addr} {news : List (Addr × Obj)} {n : Nat} {value slice : PySem.Expr} {x0 x1 : Value} {k : Int} {u : Tok} {Q : Value → Shared → Prop}
    (N : News h₀ L s.heap news) (hm : (D, { cls := .type "tuple", data := .seq #[x0, x1] n }) ∈ news) (hk : k = 0 ∨ k = 1) (h : ∀ b : Bool, Q (if b = true then x1 else x0) s)
    (hs : subscripted slice false (.ref D) (.int k u) = operate [.ref D, .int k u] (getItem (.ref D) (.int k u)) := by with_unfolding_all rfl) :
    wpAny (model prog w) A (subscriptTail value slice (.ref D) (.int k u)) Q E s := by
  have ht := News.isTup N hm
  rcases hk with rfl | rfl
  · exact tail_any ht.typeIs slot_tuple_getitem.lookup (PyProof.Rows.getItem_tuple ht (by omega) (by omega) (j := 0) rfl rfl (h false)) hs
  · exact tail_any ht.typeIs slot_tuple_getitem.lookup (PyProof.Rows.getItem_tuple ht (by omega) (by omega) (j := 1) rfl rfl (h true)) hs
theorem bit01 (x : Int) : Builtin.bitAnd x 1 = 0 ∨ Builtin.bitAnd x 1 = 1 := by rw [bitAnd_m1]; omega
theorem Ws.one (b : Bool) (t : Tok) : Ws [.str (wd b) t] [b] := Ws.rep b t 1
theorem intsAt {vs : List Value} {ns : List Int} (h : IntsAre vs ns) : ∀ {i : Nat} {v : Value}, vs[i]? = some v → ∃ k t, v = .int k t ∧ ns[i]? = some k := by
  induction h with
  | nil => intro i v hv; simp at hv
  | cons n t h ih =>
    intro i v hv
    cases i with
    | zero => simp at hv; exact ⟨_, _, hv.symm, by simp⟩
    | succ i => simp at hv; simpa using ih hv
theorem intsLen {vs : List Value} {ns : List Int} (h : IntsAre vs ns) : vs.length = ns.length := by
  induction h with
  | nil => rfl
  | cons n t h ih => simp [ih]
section
variable {w : World} {p : Program} {loose : List Str} {mean : ExcName → Option Value} {mg mb : Str → Option Value} {g : Heap} {L fa : Addr} {cd : Value} {s : Shared} {m : Str → Option Value} {Q : Flow → Shared → Prop}
theorem law_A {sl : Addr} {zs : List Int} {vs : List Value} {o1 o2 o3 : Obj}
    (X : (Mine.hd.heap_39 w.params).In g) (T : Top p loose mean mg mb g) (K : Below callerA g [] g) (F : Fr g L s.heap m) (hm : m (Str.ofString "script") = some (.ref sl)) (hL : g.IsList sl vs.toArray) (hI : IntsAre vs zs) (hlen : zs.length ≤ 63) (CH : CodeHd g 104 100)
    (N : News g L s.heap [(L + 1 + 1 + 1, o1), (L + 1 + 1, o2), (L + 1, o3), (100, tabObj #[])]) (d1 : o1.data = .cell none) (d2 : o2.data = .cell none) (d3 : o3.data = .cell none) (l0 : @LT.lt Nat _ 100 L)
    (next : ∀ (n : Nat) (ones : Int) (tn to : Tok) (Fa Sa : Addr) (vF vS : List Value) (bs : List Bool) (ss : List Int) (nF nS : Nat) (h' : Heap) (tk' : Nat) (m' : Str → Option Value) (news : List (Addr × Obj)), 2 ≤ n → n ≤ 5 → bs.length = n → ss.length ≤ 11 → (∀ x ∈ ss, 1 ≤ x ∧ x ≤ (n : Int)) →
      Fr g L h' m' → m' (Str.ofString "fronts") = some (.ref Fa) → m' (Str.ofString "starts") = some (.ref Sa) → News g L h' news → CellIn (L + 1) (some (.int (n : Int) tn)) news → CellIn (L + 1 + 1) (some (.int ones to)) news → CellIn (L + 1 + 1 + 1) none news → (100, tabObj #[]) ∈ news →
      (Fa, listOf vF.toArray nF) ∈ news → Ws vF bs → (Sa, listOf vS.toArray nS) ∈ news → IntsAre vS ss → wpAny (model PySem.Challenge.rw_pg0063_01.row.prog w) (callerA.deeper (lawEnv L fa cd)) (execs (lawB.drop 3) (lawEnv L fa cd)) Q (fun _ _ => False) { s with heap := h', toks := tk' }) :
    wpAny (model PySem.Challenge.rw_pg0063_01.row.prog w) (callerA.deeper (lawEnv L fa cd)) (execs lawB (lawEnv L fa cd)) Q (fun _ _ => False) s := by
  k_with_none
  w_top off
  k_with "call builtin:list.pop" => (k_here; (with_reducible show wpAny _ _ (call (Value.builtin _) [Value.ref _, Value.int 0 _]) _ _ _); k_dflt (refine pop0 (by k_asm) (by k_asm) (by k_upd) (by assumption) ?_); intro _ _ _)
  k_with "truthy ref" => (k_here; k_dflt (refine truthyCons (by k_asm) (by k_mem) (by assumption) ?_); (try rw [if_pos rfl]))
  k_with "call builtin:len" => (k_here; (with_reducible show wpAny _ _ (call (Value.builtin "len") [Value.ref _]) _ _ _); k_dflt (refine lenLed (by k_asm) (by k_mem) (by first | assumption | (simp only [List.length_cons, List.length_nil]; omega)) ?_))
  k_with "call builtin:iter" => (k_here; (with_reducible show wpAny _ _ (call (Value.builtin "iter") [Value.ref _, Value.str _ _]) _ _ _); k_dflt (refine iter2 (by k_asm) (by k_asm) (by k_mem) ?_); intro _ _ _ _ lz9; (try k_lt lz9))
  k_with "ite" => first | refine iteT (by with_reducible assumption) ?_ | refine iteF (by with_reducible assumption) ?_
  k_with "CompSrc" => refine hold ?_
  k_with "eval Name" => (k_here; (with_reducible show wpAny _ _ (eval (Expr.Name _ _) (compEnvC _ _ _ _)) _ _ _); k_dflt (refine LCgL.ld_own (by k_asm) (.tail _ (.head _)) (by assumption) (by assumption) ?_))
  k_with "subscriptTail Name BinOp ref int" => refine hold ?_
  unfold lawEnv at next ⊢
  rw [show lawB.drop 3 = _ :: _ from rfl, show lawSc = ⟨_, _, _, _, _⟩ from rfl] at next
  rw [show lawB = _ :: _ from rfl, show lawSc = ⟨_, _, _, _, _⟩ from rfl]
  have F1 := frMap (m' := fun z => if z = Str.ofString "script" then some (.ref sl) else m z) F (fun z => by
      by_cases h2 : z = Str.ofString "script"
      · rw [if_pos h2, h2, hm]
      · rw [if_neg h2])
  clear F
  have next' := hold next
  clear next
  obtain ⟨n, en, hn2, hn5⟩ := size_pos zs.length
  k_steps
  simp only [en] at *
  (rename IsRange _ _ _ _ _ _ _ _ => hR)
  (rename _ = Data.cell (some (Value.int (22 + _) _)) => dOn)
  (rename _ = Data.cell (some (Value.int (n : Int) _)) => dSz)
  refine Hold.out (LCg.CompSrc.range (n := n) rfl (by k_asm) (by k_asm) hR (range_small (by omega)) range_size (by rw [sizeLine_eq]; omega) (fun g1 => ?_))
  refine compInv (n := n) (fun i ys nw => (∀ q ∈ _, q ∈ nw) ∧ ∃ bs : List Bool, bs.length = i ∧ Ws ys bs) ?_ ?_ n 0 [] _ (by omega) ⟨fun _ h => h, [], rfl, rfl, fun i v b h => by simp at h⟩
  · intro i v ys nw I oI C oC D m₂ h tk E' hi hP hJ hC hx F9 N9 off9 ne9
    obtain ⟨hs, bs, hbl, hW⟩ := hJ
    obtain ⟨t, rfl⟩ := hP
    have hcell := hs _ (.tail _ (.tail _ (.tail _ (.head _))))
    k_steps
    refine Hold.out (itemTup2 (by k_asm) (.head _) (bit01 _) (fun b => ?_))
    cases b with
    | true => exact LCg.CompEnd.intro (by assumption) (by assumption) nw (fun p hp => .tail _ hp) off9 trivial ⟨hs, bs ++ [true], by simp [hbl], hW.append (Ws.one true _)⟩
    | false => exact LCg.CompEnd.intro (by assumption) (by assumption) nw (fun p hp => .tail _ hp) off9 trivial ⟨hs, bs ++ [false], by simp [hbl], hW.append (Ws.one false _)⟩
  · intro ys nw hJ
    obtain ⟨hs, bs, hbl, hW⟩ := hJ
    unfold LCg.FinA
    intro D h tk F9 N9 off9
    have hn0 : (n : Int) ≠ 0 := by omega
    k_steps
    (rename IntsAre _ ([2, 3, 1] ++ _) => hI2)
    have hlen2 : ([2, 3, 1] ++ List.take 8 zs : List Int).length ≤ 11 := by simp; omega
    refine Hold.out (LCg.CompSrc.ledger rfl (by k_asm) (by k_asm) (.head _) (by rw [List.size_toArray, intsLen hI2, sizeLine_eq]; omega) (fun g1 => ?_))
    refine compInv (n := _) (fun i ys nw' => (∀ q ∈ _, q ∈ nw') ∧ ∃ ss : List Int, ss.length = i ∧ IntsAre ys ss ∧ ∀ x ∈ ss, 1 ≤ x ∧ x ≤ (n : Int)) ?_ ?_ _ 0 [] _ (by rw [Nat.zero_add]) ⟨fun _ h => h, [], rfl, .nil, fun x h => by simp at h⟩
    · intro i v ys nw' I oI C oC D2 m₂ h tk E' hi hP hJ hC hx F9 N9 off9 ne9
      obtain ⟨hs', ss, hsl, hIs, hss⟩ := hJ
      rw [List.getElem?_toArray] at hP
      obtain ⟨x, t, rfl, hx'⟩ := intsAt hI2 hP
      have hcell := hs' _ (.tail _ (.tail _ (.tail _ (.tail _ (hs _ (.tail _ (.tail _ (.tail _ (.tail _ (.head _)))))))))) 
      have b1 := Int.fmod_lt_of_pos x (show (0 : Int) < (n : Int) by omega)
      have b2 := Int.fmod_nonneg_of_pos x (show (0 : Int) < (n : Int) by omega)
      k_steps
      refine LCg.CompEnd.intro (by assumption) (by assumption) nw' (fun p hp => hp) off9 (.inr ⟨_, hs' _ (.head _), rfl, _, rfl⟩) ⟨hs', ss ++ [1 + Int.fmod x n], by simp [hsl], hIs.append (.cons _ _ .nil), ?_⟩
      intro y hy
      rcases List.mem_append.mp hy with hy | hy
      · exact hss y hy
      · rw [List.mem_singleton.mp hy]; omega
    · intro ys2 nw2 hJ
      obtain ⟨hs', ss, hsl, hIs, hss⟩ := hJ
      unfold LCg.FinA
      intro D2 h tk F9 N9 off9
      have hs2 : ∀ q ∈ nw, q ∈ (D2, LCg.lst ys2) :: nw2 := fun q hq => .tail _ (hs' _ (.tail _ (.tail _ (.tail _ (.tail _ hq)))))
      exact Hold.out next' n _ _ _ D D2 _ _ bs ss _ _ _ _ _ _ hn2 hn5 hbl (by rw [hsl, List.size_toArray, intsLen hI2]; exact hlen2) hss F9 rfl rfl N9 ⟨_, hs2 _ (hs _ (.tail _ (.tail _ (.tail _ (.tail _ (.head _)))))), dSz⟩ ⟨_, hs2 _ (hs _ (.tail _ (.tail _ (.tail _ (.head _))))), dOn⟩ ⟨_, hs2 _ (hs _ (.tail _ (.tail _ (.head _)))), d1⟩ (hs2 _ (hs _ (.tail _ (.tail _ (.tail _ (.tail _ (.tail _ (.head _)))))))) (.tail _ (hs' _ (.tail _ (.tail _ (.tail _ (.head _)))))) hW (.head _) hIs
end
/-! part PgW -/
section
variable {prog : Program} {w : World} {A : Around} {E : Value → Shared → Prop} {s : Shared} {h₀ : Heap} {L : Addr} {m : Str → Option Value} {env : Env}
def OffE (e it C D : Addr) (nw : List (Addr × Obj)) : Prop := ∀ p ∈ nw, (@Ne Nat p.1 e) ∧ (@Ne Nat p.1 it) ∧ (@Ne Nat p.1 C) ∧ (@Ne Nat p.1 D)
def EnumEnd (h₀ : Heap) (L : Addr) (m : Str → Option Value) (s₁ : Shared) (e : Addr) (oe : Obj) (it : Addr) (oi : Obj) (C : Addr) (oC : Obj) (D : Addr) (ys : List Value) (J : List Value → List (Addr × Obj) → Prop) (y : Value) (s₂ : Shared) : Prop :=
  ∃ h' tk' nw', A5 (s₂ = { s₁ with heap := h', toks := tk' }) (Fr h₀ L h' m) (News h₀ L h' ((e, oe) :: (C, oC) :: (it, oi) :: (D, LCg.lst ys) :: nw')) (OffE e it C D nw') (J (ys ++ [y]) nw')
/-- a comprehension over enumerate of a list of the ledger, with a pair of names, set to a name -/
def SrcE (prog : Program) (w : World) (A : Around) (h₀ : Heap) (L : Addr) (m : Str → Option Value) (env : Env) (elt : PySem.Expr) (a b : Str) (scope : Scope) (cl : List (Str × Addr)) (y : Str) (Q : Flow → Shared → Prop) (xv : Value) (s₁ : Shared) : Prop :=
  ∃ (e it l : Addr) (its : Array Value) (k : Nat) (news : List (Addr × Obj)) (J : Nat → List Value → List (Addr × Obj) → Prop), A17 (xv = .ref e) (A.handled = none) (Fr h₀ L s₁.heap m) (News h₀ L s₁.heap news) (IsEnum s₁.heap e it 0 .none) (s₁.heap.IsListIter it l 0) (h₀.get? e = none) (h₀.get? it = none) (L ≠ e) (L ≠ it) (e ≠ it) (∀ p ∈ news, p.1 ≠ e ∧ p.1 ≠ it) (∀ i ys nw, J i ys nw → (l, listOf its k) ∈ nw) (its.size ≤ sizeLine) (J 0 [] news) (∀ i x t ys nw oe oi C oC D m₂ h tk (E' : Value → Shared → Prop), its[i]? = some x → J i ys nw → LCg.NsObj oC m₂ → m₂ a = some (.int ((i : Nat) : Int) t) → m₂ b = some x → Fr h₀ L h m → News h₀ L h ((e, oe) :: (C, oC) :: (it, oi) :: (D, LCg.lst ys) :: nw) → OffE e it C D nw →
      wpAny (model prog w) A (eval elt (compEnvC scope cl C env)) (EnumEnd h₀ L m s₁ e oe it oi C oC D ys (J (i + 1))) E' { s₁ with heap := h, toks := tk }) (∀ ys nw D h tk, J its.size ys nw → Fr h₀ L h (fun z => if z = y then some (.ref D) else m z) → News h₀ L h ((D, LCg.lst ys) :: nw) → (∀ p ∈ nw, @Ne Nat p.1 D) → Q .next { s₁ with heap := h, toks := tk })
theorem Assign_ListComp_E {elt iter : PySem.Expr} {a b y : Str} {pa pb tp py : Pos} {kk : Nat} {scope : Scope} {cl : List (Str × Addr)} {pos spos : Pos} {Q : Flow → Shared → Prop} (F₀ : Fr h₀ L s.heap m) (hLe : env.locals = L)
    (hsw : swapsWith (.ListComp elt [⟨.Tuple [.Name a pa, .Name b pb] kk tp, iter, [], 0⟩] scope pos) (some (.Name y py)) spos.line env = pure true)
    (hclos : closureFor scope env = pure cl) (hcell : ∀ z ∈ scope.names, z.2 ≠ .cell) (hkind : scope.kind = .function)
    (hnames : ∀ z ∈ scope.names, z.2 = .local → scope.names.lookup z.1 = some .local) (hxa : scope.names.lookup a = some .local) (hxb : scope.names.lookup b = some .local) (hab : ¬ a = b)
    (hy : env.kindOf y = some .local) (hp : (env.scope.kind == .class || (env.scope.kind == .module && env.locals != env.globals)) = false)
    (h : wpAny (model prog w) A (eval iter env) (SrcE prog w A h₀ L m env elt a b scope cl y Q) E s)
    (hs : ∀ x, foldedSetIterable iter env x = pure x := by intro _; rfl) :
    wpAny (model prog w) A (exec (.Assign [.Name y py] (.ListComp elt [⟨.Tuple [.Name a pa, .Name b pb] kk tp, iter, [], 0⟩] scope pos) spos) env) Q E s := by
  subst hLe
  rw [exec_Assign_Name_used _ _ _ _ hsw]
  refine wpAny_bind (wpAny_standAt (wpAny_bind ?_))
  show wpAny _ A (do let _ ← comprehension (.ListComp elt [⟨.Tuple [.Name a pa, .Name b pb] kk tp, iter, [], 0⟩] scope pos) scope env _ (newList []) false (eval iter env) (some (assign (.Name y py) env))) _ _ s
  refine wpAny_bind (wpAny_mono (wpAny_comprehension_free (use := some (assign (.Name y py) env)) (Q := fun _ s' => Q .next s') rfl hs hclos hkind hnames
    (wpAny_mono h (fun xv s₁ h₁ => ?_) fun _ _ e => e)) (fun _ s' hq => wpAny_pure (wpAny_pure hq)) fun _ _ e => e)
  obtain ⟨e, it, l, its, k, news, J, rfl, hh, F, N, hE, hI, he₀, hi₀, hLe, hLi, hei, off, hJm, hsz, hJ0, turn, fin⟩ := h₁
  have hax := N _ (hJm _ _ _ hJ0)
  have hl : s₁.heap.IsList l its := ⟨_, hax.1, rfl, k, rfl⟩
  have hle : l ≠ e := (off _ (hJm _ _ _ hJ0)).1
  have hli : l ≠ it := (off _ (hJm _ _ _ hJ0)).2
  have helt : e < s₁.heap.objs.size := Heap.lt_size hE
  have hilt : it < s₁.heap.objs.size := by obtain ⟨_, x, _⟩ := hI; exact Heap.lt_size x
  have hllt : l < s₁.heap.objs.size := Heap.lt_size hax.1
  refine wpAny_pyIter_enum hE ?_
  have W := (WalksT.enumerate (prog := prog) (w := w) hh e it l hei hle hli its).toU
  refine wpAny_newObj_type (wpAny_newFunctionEnv hcell (by intro y hy; simp at hy) (fun h₁ hns₁ hsb₁ => ?_) hkind)
  dsimp only at hns₁ hsb₁ ⊢
  generalize hH2 : s₁.heap.push { cls := .type "list", dict := none, data := .seq ([] : List Value).toArray } = H2 at hns₁ hsb₁ ⊢
  have hC : H2.objs.size = s₁.heap.objs.size + 1 := by rw [← hH2, Heap.size_push]
  generalize hDe : s₁.heap.objs.size = D at *
  generalize H2.objs.size = C at *
  have hCe : @Eq Nat C (D + 1) := hC
  have helt' : @LT.lt Nat _ e D := helt
  have hilt' : @LT.lt Nat _ it D := hilt
  have hllt' : @LT.lt Nat _ l D := hllt
  have hLlt : @LT.lt Nat _ env.locals D := hDe ▸ F.ns.lt
  have old : ∀ b o, s₁.heap.get? b = some o → h₁.get? b = some o := fun b o e => hsb₁.extBut b o (by have q : @LT.lt Nat _ b D := hDe ▸ Heap.lt_size e; intro h; have h' : @Eq Nat b C := h; omega) (Heap.get?_push_of_some _ (hH2 ▸ Heap.get?_push_of_some _ e))
  have hacc : h₁.get? D = some (LCg.lst []) := hsb₁.extBut _ _ (by intro h; have h' : @Eq Nat D C := h; omega) (Heap.get?_push_of_some _ (hH2 ▸ (hDe ▸ Heap.get?_push_size _ rfl)))
  have fresh₀ : ∀ a, @LE.le Nat _ D a → h₀.get? a = none := fun a ha => by
    cases e : h₀.get? a with
    | none => rfl
    | some o' => exact absurd (Heap.lt_size (F.keep a o' e)) (by rw [hDe]; exact Nat.not_lt.mpr ha)
  have hD₀ := fresh₀ D (Nat.le_refl _)
  have hC₀ := fresh₀ C (by omega)
  have hDL : D ≠ env.locals := fun h => by have h' : @Eq Nat D env.locals := h; omega
  have hCL : C ≠ env.locals := fun h => by have h' : @Eq Nat C env.locals := h; omega
  have hDC : D ≠ C := fun h => by have h' : @Eq Nat D C := h; omega
  have hCe' : C ≠ e := fun h => by have h' : @Eq Nat C e := h; omega
  have hCi : C ≠ it := fun h => by have h' : @Eq Nat C it := h; omega
  have hCl : C ≠ l := fun h => by have h' : @Eq Nat C l := h; omega
  have hDe' : D ≠ e := fun h => by have h' : @Eq Nat D e := h; omega
  have hDi : D ≠ it := fun h => by have h' : @Eq Nat D it := h; omega
  have hDl : D ≠ l := fun h => by have h' : @Eq Nat D l := h; omega
  have off₀ : OffE e it C D news := fun p hp => by
    have q : @LT.lt Nat _ p.1 D := hDe ▸ Heap.lt_size (N p hp).1
    exact ⟨(off p hp).1, (off p hp).2, fun h => by have h' : @Eq Nat p.1 C := h; omega, fun h => by have h' : @Eq Nat p.1 D := h; omega⟩
  have hst₁ : (∃ old, IsEnum h₁ e it ((0 : Nat) : Int) old) ∧ h₁.IsListIter it l 0 ∧ h₁.IsList l its := ⟨⟨.none, old _ _ hE⟩, hI.at fun o x => old _ _ x, hl.at fun o x => old _ _ x⟩
  have frW : ∀ {hA hB : Heap} {mm : Str → Option Value}, Fr h₀ env.locals hA mm → (∀ b o, b ∉ [e, it] → hA.get? b = some o → hB.get? b = some o) → Fr h₀ env.locals hB mm := fun {hA hB mm} F' hk =>
    ⟨F'.ns.at' fun o x => hk _ o (by simp [hLe, hLi]) x, fun b o x => hk b o (fun hm => by
      rcases List.mem_cons.mp hm with q | hm
      · rw [q, he₀] at x; cases x
      · rw [List.mem_singleton.mp hm, hi₀] at x; cases x) (F'.keep b o x), F'.above⟩
  have newsW : ∀ {hA hB : Heap} {nn : List (Addr × Obj)}, News h₀ env.locals hA nn → (∀ b o, b ∉ [e, it] → hA.get? b = some o → hB.get? b = some o) → (∀ p ∈ nn, p.1 ≠ e ∧ p.1 ≠ it) → News h₀ env.locals hB nn := fun {hA hB nn} N' hk ho p hp =>
    ⟨hk _ _ (by simp [ho p hp]) (N' p hp).1, (N' p hp).2⟩
  have loop : ∀ s₃ : Shared, s₃ = { s₁ with heap := h₁, toks := s₁.toks + ([] : List (Str × Value)).length } →
      codeAny (model prog w) A (.compLoop (.ListComp elt [⟨.Tuple [.Name a pa, .Name b pb] kk tp, iter, [], 0⟩] scope pos) 0 (.ref e) (.ref D) (compEnvC scope cl C env))
        (compPost (model prog w) A E (some (assign (.Name y py) env)) (fun _ s' => Q .next s') (.ref D) C) s₃ := by
    rintro s₃ rfl
    refine kcp_loop
      (fun c s' => ∃ h' tk i ys m' nw, A10 (s' = { s₁ with heap := h', toks := tk }) (i ≤ its.size) (c = its.size + 1 - i) (ys.length = i) ((∃ old, IsEnum h' e it ((i : Nat) : Int) old) ∧ h'.IsListIter it l i ∧ h'.IsList l its) (Fr h₀ env.locals h' m) (h'.Ns C m') (News h₀ env.locals h' ((D, LCg.lst ys) :: nw)) (OffE e it C D nw) (J i ys nw)) ?_ (its.size + 1)
      ⟨h₁, _, 0, [], _, news, rfl, Nat.zero_le _, rfl, rfl, hst₁, F.keeps old, hns₁, fun p hp => ?_, off₀, hJ0⟩
    · rintro c s' ⟨h', tk, i, ys, m', nw, rfl, hi, rfl, hyl, hst', F', hn', N', off', hJ⟩
      have offD : ∀ p ∈ (D, LCg.lst ys) :: nw, p.1 ≠ e ∧ p.1 ≠ it := fun p hp => by
        rcases List.mem_cons.mp hp with rfl | hp
        · exact ⟨hDe', hDi⟩
        · exact ⟨(off' p hp).1, (off' p hp).2.1⟩
      by_cases hlti : i < its.size
      · refine W.item i _ _ _ hlti hst' fun T vals h₂ tk₂ hPt hT hMid hk₂ => ?_
        have F₂ := frW F' hk₂
        have N₂ := newsW N' hk₂ offD
        have hn₂ : h₂.Ns C m' := hn'.at' fun o x => hk₂ _ o (by simp [hCe', hCi]) x
        refine W.go _ _ _ i T _ _ _ hMid fun h₃ hst₃ hk₃ => ?_
        have F₃ := frW F₂ hk₃
        have N₃ := newsW N₂ hk₃ offD
        have hn₃ : h₃.Ns C m' := hn₂.at' fun o x => hk₃ _ o (by simp [hCe', hCi]) x
        obtain ⟨t, x, hx, rfl⟩ := hPt
        have hT₃ : h₃.IsTuple T #[.int ((i : Nat) : Int) t, x] := hT.at fun o q => hk₃ _ o (W.apart _ _ _ hMid) q
        refine kcp_assign hh hT₃ (lookup_relabel_local hxa) (lookup_relabel_local hxb) (by simp [compEnvC, relabel, hkind]) hn₃ (fun h₄ tk₄ hn₄ hk₄ => ?_)
        have up₄ : ∀ c o, c ≠ C → h₃.get? c = some o → h₄.get? c = some o := hk₄
        have hst₄ : (∃ old, IsEnum h₄ e it ((i + 1 : Nat) : Int) old) ∧ h₄.IsListIter it l (i + 1) ∧ h₄.IsList l its := W.frame (i + 1) _ _ hst₃ fun b hb o q => up₄ b o (fun z => by
          rcases List.mem_cons.mp hb with z1 | hb
          · exact hCe' (z.symm.trans z1)
          rcases List.mem_cons.mp hb with z1 | hb
          · exact hCi (z.symm.trans z1)
          · exact hCl (z.symm.trans (List.mem_singleton.mp hb))) q
        obtain ⟨⟨old', hE₄⟩, ⟨oi, hei4, roi⟩, hl₄⟩ := hst₄
        obtain ⟨oC, heC, hoC⟩ := LCg.ns_obj hn₄
        have F₄ : Fr h₀ env.locals h₄ m := ⟨F₃.ns.at' fun o q => up₄ _ o (Ne.symm hCL) q, fun b o q => up₄ b o (fun z => by rw [z, hC₀] at q; cases q) (F₃.keep b o q), F₃.above⟩
        have hE₄' : ∃ oe, h₄.get? e = some oe ∧ ∀ h'' : Heap, h''.get? e = some oe → IsEnum h'' e it ((i + 1 : Nat) : Int) old' := ⟨_, hE₄, fun _ q => q⟩
        obtain ⟨oe, hoe, roe⟩ := hE₄'
        have N₄ : News h₀ env.locals h₄ ((e, oe) :: (C, oC) :: (it, oi) :: (D, LCg.lst ys) :: nw) := fun p hp => by
          rcases List.mem_cons.mp hp with rfl | hp
          · exact ⟨hoe, Ne.symm hLe, he₀⟩
          rcases List.mem_cons.mp hp with rfl | hp
          · exact ⟨heC, hCL, hC₀⟩
          rcases List.mem_cons.mp hp with rfl | hp
          · exact ⟨hei4, Ne.symm hLi, hi₀⟩
          have z := N₃ p hp
          refine ⟨up₄ _ _ ?_ z.1, z.2⟩
          rcases List.mem_cons.mp hp with rfl | hp
          · exact hDC
          · exact (off' p hp).2.2.1
        refine wpAny_mono (turn i x t ys nw oe oi C oC D _ h₄ tk₄ _ hx hJ hoC (by rw [if_neg hab, if_pos rfl]) (by rw [if_pos rfl]) F₄ N₄ off') (fun v s₅ h₅ => ?_) fun _ _ e => e
        obtain ⟨h₅, tk₅, nw₅, rfl, F₅, N₅, off₅, hJ₅⟩ := h₅
        have zE := (N₅ (e, oe) (.head _)).1
        have zC := (N₅ (C, oC) (.tail _ (.head _))).1
        have zI := (N₅ (it, oi) (.tail _ (.tail _ (.head _)))).1
        have zD := (N₅ (D, LCg.lst ys) (.tail _ (.tail _ (.tail _ (.head _))))).1
        have N₅' : News h₀ env.locals h₅ nw₅ := fun p hp => N₅ p (.tail _ (.tail _ (.tail _ (.tail _ hp))))
        have zA := (N₅' _ (hJm _ _ _ hJ₅)).1
        refine append_at (hsz := by show ys.toArray.size ≤ sizeLine; rw [List.size_toArray, hyl]; exact Nat.le_trans hi hsz) zD fun h₆ hs₆ hD₆ => ?_
        refine ⟨its.size + 1 - (i + 1), by omega, h₆, tk₅, i + 1, ys ++ [v], _, nw₅, rfl, hlti, rfl, by rw [List.length_append, List.length_singleton, hyl],
          ⟨⟨_, roe _ (hs₆.extBut _ _ (Ne.symm hDe') zE)⟩, ⟨oi, hs₆.extBut _ _ (Ne.symm hDi) zI, roi⟩, ⟨_, hs₆.extBut _ _ (Ne.symm hDl) zA, rfl, k, rfl⟩⟩, F₅.change hs₆ hDL hD₀, (hoC.ns zC).sameBut hs₆ (Ne.symm hDC), fun p hp => ?_, off₅, hJ₅⟩
        rcases List.mem_cons.mp hp with rfl | hp
        · exact ⟨hD₆.trans (congrArg some (LCg.lst_snoc ys v)), hDL, hD₀⟩
        · exact ⟨hs₆.extBut _ _ (off₅ p hp).2.2.2 (N₅' p hp).1, (N₅' p hp).2⟩
      · obtain rfl : i = its.size := Nat.le_antisymm hi (Nat.not_lt.mp hlti)
        refine W.done _ _ _ hst' fun h₂ tk₂ hk₂ => ?_
        have F₂ := frW F' hk₂
        have N₂ := newsW N' hk₂ offD
        have hn₂ : h₂.Ns C m' := hn'.at' fun o x => hk₂ _ o (by simp [hCe', hCi]) x
        show wpAny _ A (assign (.Name y py) env (.ref D)) _ _ _
        refine wpAny_assign_Name (wpAny_storeName_local hy F₂.ns (fun h₃ hn₃ hs₃ => ?_) hp)
        have hL₀ : h₀.get? env.locals = none := Heap.get?_none_of_le F₂.above
        have F₃ : Fr h₀ env.locals h₃ (fun z => if z = y then some (.ref D) else m z) := ⟨hn₃, fun b o e => hs₃.extBut b o (fun q => by rw [q, hL₀] at e; cases e) (F₂.keep b o e), F₂.above⟩
        refine ⟨m', hn₂.sameBut hs₃ hCL, fun h'' hs'' => fin ys nw D h'' _ hJ (F₃.change hs'' hCL hC₀) (fun p hp => ?_) (fun p hp => (off' p hp).2.2.2)⟩
        have z : h₃.get? p.1 = some p.2 := hs₃.extBut _ _ (N₂ p hp).2.1 (N₂ p hp).1
        refine ⟨hs''.extBut _ _ ?_ z, (N₂ p hp).2⟩
        rcases List.mem_cons.mp hp with rfl | hp
        · exact hDC
        · exact (off' p hp).2.2.1
    · rcases List.mem_cons.mp hp with rfl | hp
      · exact ⟨hacc, hDL, hD₀⟩
      · exact ⟨old _ _ (N p hp).1, (N p hp).2⟩
  exact codeAny_compStart_list (loop _ rfl) (W.self 0 _ _ _ hst₁ (loop _ rfl))
end
/-! part PgX -/
theorem call_enumE {prog : Program} {w : World} {A : Around} {E : Value → Shared → Prop} {s : Shared} {h₀ : Heap} {L : Addr} {m : Str → Option Value} {env : Env} {elt : PySem.Expr} {a b y : Str} {scope : Scope} {cl : List (Str × Addr)} {Q : Flow → Shared → Prop} {l : Addr} {its : Array Value} {k : Nat} {news : List (Addr × Obj)}
    (J : Nat → List Value → List (Addr × Obj) → Prop) (hh : A.handled = none) (F : Fr h₀ L s.heap m) (N : News h₀ L s.heap news) (hJm : ∀ i ys nw, J i ys nw → (l, listOf its k) ∈ nw) (hsz : its.size ≤ sizeLine) (hJ0 : J 0 [] news)
    (turn : ∀ e it i x t ys nw oe oi C oC D m₂ h tk (E' : Value → Shared → Prop), its[i]? = some x → J i ys nw → LCg.NsObj oC m₂ → m₂ a = some (.int ((i : Nat) : Int) t) → m₂ b = some x → Fr h₀ L h m → News h₀ L h ((e, oe) :: (C, oC) :: (it, oi) :: (D, LCg.lst ys) :: nw) → OffE e it C D nw →
      wpAny (model prog w) A (eval elt (compEnvC scope cl C env)) (EnumEnd h₀ L m s e oe it oi C oC D ys (J (i + 1))) E' { s with heap := h, toks := tk })
    (fin : ∀ ys nw D h tk, J its.size ys nw → Fr h₀ L h (fun z => if z = y then some (.ref D) else m z) → News h₀ L h ((D, LCg.lst ys) :: nw) → (∀ p ∈ nw, @Ne Nat p.1 D) → Q .next { s with heap := h, toks := tk }) :
    wpAny (model prog w) A (call (.type "enumerate") [.ref l]) (SrcE prog w A h₀ L m env elt a b scope cl y Q) E s := by
  have hax := N _ (hJm _ _ _ hJ0)
  have hLlt : @LT.lt Nat _ L s.heap.objs.size := F.ns.lt
  refine call_enumerate_list ⟨_, hax.1, rfl, k, rfl⟩ fun h' hE hI hsz' hk => ?_
  have lt : ∀ p ∈ news, @LT.lt Nat _ p.1 s.heap.objs.size := fun p hp => Heap.lt_size (N p hp).1
  refine ⟨s.heap.objs.size + 1, s.heap.objs.size, l, its, k, news, J, rfl, hh, F.keeps hk, N.grown hk, hE, hI, ktu_new F (Nat.le_add_right _ _), ktu_new F (Nat.le_refl _), Nat.ne_of_lt (Nat.lt_succ_of_lt hLlt), Nat.ne_of_lt hLlt, Nat.succ_ne_self _, fun p hp => ⟨Nat.ne_of_lt (Nat.lt_succ_of_lt (lt p hp)), Nat.ne_of_lt (lt p hp)⟩, hJm, hsz, hJ0, ?_, ?_⟩
  · intro i x t ys nw oe oi C oC D m₂ h tk E' a1 a2 a3 a4 a5 a6 a7 a8
    exact turn _ _ i x t ys nw oe oi C oC D m₂ h tk E' a1 a2 a3 a4 a5 a6 a7 a8
  · intro ys nw D h tk a1 a2 a3 a4
    exact fin ys nw D h tk a1 a2 a3 a4
/-- the first lines of the file -/
def linesS (q : Int) (bs : List Bool) : Nat → List Str
  | 0 => []
  | i + 1 => linesS q bs i ++ [spellS (wd (bs.getD i false)) (wd (!bs.getD i false)) (q + (i : Int))]
section
variable {w : World} {p : Program} {loose : List Str} {mean : ExcName → Option Value} {mg mb : Str → Option Value} {g : Heap} {L fa : Addr} {cd : Value} {s : Shared} {m : Str → Option Value} {Q : Flow → Shared → Prop}
theorem law_B {n : Nat} {ones : Int} {tn to : Tok} {Fa Sa : Addr} {vF vS : List Value} {bs : List Bool} {ss : List Int} {nF nS : Nat} {news : List (Addr × Obj)}
    (X : (Mine.hd.heap_39 w.params).In g) (T : Top p loose mean mg mb g) (K : Below callerA g [] g) (hn2 : 2 ≤ n) (hn5 : n ≤ 5) (hbl : bs.length = n) (hsl : ss.length ≤ 11) (hss : ∀ x ∈ ss, 1 ≤ x ∧ x ≤ (n : Int))
    (F : Fr g L s.heap m) (mF : m (Str.ofString "fronts") = some (.ref Fa)) (mS : m (Str.ofString "starts") = some (.ref Sa)) (N : News g L s.heap news) (hcS : CellIn (L + 1) (some (.int (n : Int) tn)) news) (hcO : CellIn (L + 1 + 1) (some (.int ones to)) news) (hcT : CellIn (L + 1 + 1 + 1) none news) (h100 : (100, tabObj #[]) ∈ news)
    (hF : (Fa, listOf vF.toArray nF) ∈ news) (hW : Ws vF bs) (hS : (Sa, listOf vS.toArray nS) ∈ news) (hIs : IntsAre vS ss)
    (next : ∀ (Ta : Addr) (vT : List Value) (nT : Nat) (h' : Heap) (tk' : Nat) (m' : Str → Option Value) (news' : List (Addr × Obj)), Fr g L h' m' → m' (Str.ofString "fronts") = some (.ref Fa) → m' (Str.ofString "starts") = some (.ref Sa) → m' (Str.ofString "text") = some (.ref Ta) → News g L h' news' → (∀ q ∈ news, q ∈ news') →
      (Ta, listOf vT.toArray nT) ∈ news' → StrsAre vT (linesS (Int.fdiv ones 32) bs n) → wpAny (model PySem.Challenge.rw_pg0063_01.row.prog w) (callerA.deeper (lawEnv L fa cd)) (execs (lawB.drop 4) (lawEnv L fa cd)) Q (fun _ _ => False) { s with heap := h', toks := tk' }) :
    wpAny (model PySem.Challenge.rw_pg0063_01.row.prog w) (callerA.deeper (lawEnv L fa cd)) (execs (lawB.drop 3) (lawEnv L fa cd)) Q (fun _ _ => False) s := by
  k_with_none
  w_top off
  k_with "call builtin:list.pop" => (k_here; (with_reducible show wpAny _ _ (call (Value.builtin _) [Value.ref _, Value.int 0 _]) _ _ _); k_dflt (refine pop0 (by k_asm) (by k_asm) (by k_upd) (by assumption) ?_); intro _ _ _)
  k_with "truthy ref" => (k_here; k_dflt (refine truthyCons (by k_asm) (by k_mem) (by assumption) ?_); (try rw [if_pos rfl]))
  k_with "call builtin:len" => (k_here; (with_reducible show wpAny _ _ (call (Value.builtin "len") [Value.ref _]) _ _ _); k_dflt (refine lenLed (by k_asm) (by k_mem) (by first | assumption | (simp only [List.length_cons, List.length_nil]; omega)) ?_))
  k_with "call builtin:iter" => (k_here; (with_reducible show wpAny _ _ (call (Value.builtin "iter") [Value.ref _, Value.str _ _]) _ _ _); k_dflt (refine iter2 (by k_asm) (by k_asm) (by k_mem) ?_); intro _ _ _ _ lz9; (try k_lt lz9))
  k_with "ite" => first | refine iteT (by with_reducible assumption) ?_ | refine iteF (by with_reducible assumption) ?_
  k_with "CompSrc" => refine hold ?_
  k_with "eval Name" => (k_here; (with_reducible show wpAny _ _ (eval (Expr.Name _ _) (compEnvC _ _ _ _)) _ _ _); k_dflt (refine LCgL.ld_own (by k_asm) (.tail _ (.head _)) (by assumption) (by assumption) ?_))
  k_with "exec Assign cons ListComp" => (k_here; (with_reducible show wpAny _ _ (exec (Stmt.Assign _ (Expr.ListComp _ [⟨Expr.Tuple _ _ _, _, _, _⟩] _ _) _) _) _ _ _); k_dflt (refine Assign_ListComp_E (F₀ := by k_asm) (by rfl) (by with_unfolding_all rfl) (by with_unfolding_all rfl) (by decide) (by rfl) (by decide) (by rfl) (by rfl) (by decide) (by rfl) (by rfl) ?_))
  k_with "call ref" => (k_dflt (show wpAny _ _ (call (Value.ref 117) [Value.ref _]) _ _ _); refine hold ?_)
  k_with "call ref" => (k_dflt (show wpAny _ _ (call (Value.ref 124) [Value.ref _, _]) _ _ _); refine hold ?_)
  k_with "call type:enumerate" => refine hold ?_
  unfold lawEnv at next ⊢
  rw [show lawB.drop 4 = _ :: _ from rfl, show lawSc = ⟨_, _, _, _, _⟩ from rfl] at next
  rw [show lawB.drop 3 = _ :: _ from rfl, show lawSc = ⟨_, _, _, _, _⟩ from rfl]
  have F1 := frMap (m' := fun z => if z = Str.ofString "fronts" then some (.ref Fa) else if z = Str.ofString "starts" then some (.ref Sa) else m z) F (fun z => by
      by_cases h1 : z = Str.ofString "fronts"
      · rw [if_pos h1, h1, mF]
      · rw [if_neg h1]
        by_cases h2 : z = Str.ofString "starts"
        · rw [if_pos h2, h2, mS]
        · rw [if_neg h2])
  clear F
  have next' := hold next
  clear next
  k_steps
  refine Hold.out (lines_t (by k_asm) (by k_asm) (by k_asm) (by k_asm) (by k_asm) (by rfl) hF hW (by rw [hW.len]; omega) (by ktr_room) (by ktr_units) ?_)
  intro D ys h' tk' news' F' N' hsub hLn hoff
  k_steps
  obtain ⟨oO, hO, dO⟩ := hcO
  refine Hold.out (call_enumE (k := ys.length) (fun i zs nw => (∀ q ∈ (D, LCg.lst ys) :: news', q ∈ nw) ∧ StrsAre zs (linesS (Int.fdiv ones 32) bs i)) rfl (by k_asm) (by k_asm) (fun i zs nw h => h.1 _ (.head _)) (by rw [List.size_toArray, hLn.len, hbl, sizeLine_eq]; omega) ⟨fun _ h => h, .nil⟩ ?_ ?_)
  · intro e it i x t zs nw oe oi C oC D2 m₂ h tk E' hx hJ hC ha hb F9 N9 off9
    obtain ⟨hs, hZ⟩ := hJ
    rw [List.getElem?_toArray] at hx
    have hi : i < ys.length := (List.getElem?_eq_some_iff.mp hx).1
    have hib : i < bs.length := hLn.len ▸ hi
    have hbi : bs[i]? = some bs[i] := List.getElem?_eq_getElem hib
    have hgd : bs.getD i false = bs[i] := by rw [List.getD_eq_getElem?_getD, hbi]; rfl
    generalize bs[i] = b at hbi hgd
    obtain ⟨l, nl, t0, t1, rfl, hml⟩ := hLn.all i x b hx hbi
    have hml' := hs _ (.tail _ hml)
    have hO' := hs _ (.tail _ (hsub _ hO))
    have hwb : ∀ b, (wd b).length ≤ 100 := fun b => by cases b <;> decide
    k_steps
    refine Hold.out (spelled_t (by k_asm) (by k_asm) (by k_asm) (by k_asm) (by k_asm) (by rfl) (.tail _ (.tail _ (.tail _ (.tail _ hml')))) (hwb _) (hwb _) (by ktr_room) (by ktr_units) ?_)
    intro t' h2 tk2 nw2 F2 N2 hs2
    k_steps
    trace_state
    refine ⟨_, _, nw, rfl, F2, fun p hp => N2 p (hs2 p hp), off9, hs, ?_⟩
    rw [linesS, hgd]
    exact StrsAre.append' hZ (.cons _ _ .nil)
  · intro zs nw D2 h tk hJ F9 N9 off9
    obtain ⟨hs, hZ⟩ := hJ
    rw [List.size_toArray, hLn.len, hbl] at hZ
    exact Hold.out next' D2 zs _ h tk _ _ F9 rfl rfl rfl N9 (fun q hq => .tail _ (hs _ (.tail _ (hsub q hq)))) (.head _) hZ
end
/-! part PgY -/
theorem strsLen {vs : List Value} {ns : List Str} (h : StrsAre vs ns) : vs.length = ns.length := by
  induction h with
  | nil => rfl
  | cons n t h ih => simp [ih]
def letterS (x : Int) : Str := if x = 1 then Str.ofString "a" else if x = 2 then Str.ofString "b" else if x = 3 then Str.ofString "c" else if x = 4 then Str.ofString "d" else Str.ofString "e"
def gateS (x : Int) : Str := (snd2 (Int.fmod x 2) ++ letterS x) ++ Str.ofString "\n"
section
variable {w : World} {p : Program} {loose : List Str} {mean : ExcName → Option Value} {mg mb : Str → Option Value} {g : Heap} {L fa : Addr} {cd : Value} {s : Shared} {m : Str → Option Value} {Q : Flow → Shared → Prop}
theorem law_C {n : Nat} {Fa Sa Ta : Addr} {vS vT : List Value} {ts : List Str} {ss : List Int} {nS nT : Nat} {news : List (Addr × Obj)}
    (X : (Mine.hd.heap_39 w.params).In g) (T : Top p loose mean mg mb g) (K : Below callerA g [] g) (hn2 : 2 ≤ n) (hn5 : n ≤ 5) (hsl : ss.length ≤ 11) (hss : ∀ x ∈ ss, 1 ≤ x ∧ x ≤ (n : Int)) (htl : ts.length ≤ 5)
    (F : Fr g L s.heap m) (mF : m (Str.ofString "fronts") = some (.ref Fa)) (mS : m (Str.ofString "starts") = some (.ref Sa)) (mT : m (Str.ofString "text") = some (.ref Ta)) (N : News g L s.heap news)
    (hS : (Sa, listOf vS.toArray nS) ∈ news) (hIs : IntsAre vS ss) (hT : (Ta, listOf vT.toArray nT) ∈ news) (hTs : StrsAre vT ts)
    (next : ∀ (Ta' : Addr) (vT' : List Value) (nT' : Nat) (h' : Heap) (tk' : Nat) (m' : Str → Option Value) (news' : List (Addr × Obj)), Fr g L h' m' → m' (Str.ofString "fronts") = some (.ref Fa) → m' (Str.ofString "starts") = some (.ref Sa) → m' (Str.ofString "text") = some (.ref Ta') → News g L h' news' → (∀ q ∈ news, q ∈ news') →
      (Ta', listOf vT'.toArray nT') ∈ news' → StrsAre vT' (ts ++ ss.map gateS) → wpAny (model PySem.Challenge.rw_pg0063_01.row.prog w) (callerA.deeper (lawEnv L fa cd)) (execs (lawB.drop 5) (lawEnv L fa cd)) Q (fun _ _ => False) { s with heap := h', toks := tk' }) :
    wpAny (model PySem.Challenge.rw_pg0063_01.row.prog w) (callerA.deeper (lawEnv L fa cd)) (execs (lawB.drop 4) (lawEnv L fa cd)) Q (fun _ _ => False) s := by
  k_with_none
  w_top off
  k_with "call builtin:list.pop" => (k_here; (with_reducible show wpAny _ _ (call (Value.builtin _) [Value.ref _, Value.int 0 _]) _ _ _); k_dflt (refine pop0 (by k_asm) (by k_asm) (by k_upd) (by assumption) ?_); intro _ _ _)
  k_with "truthy ref" => (k_here; k_dflt (refine truthyCons (by k_asm) (by k_mem) (by assumption) ?_); (try rw [if_pos rfl]))
  k_with "call builtin:len" => (k_here; (with_reducible show wpAny _ _ (call (Value.builtin "len") [Value.ref _]) _ _ _); k_dflt (refine lenLed (by k_asm) (by k_mem) (by first | assumption | (simp only [List.length_cons, List.length_nil]; omega)) ?_))
  k_with "call builtin:iter" => (k_here; (with_reducible show wpAny _ _ (call (Value.builtin "iter") [Value.ref _, Value.str _ _]) _ _ _); k_dflt (refine iter2 (by k_asm) (by k_asm) (by k_mem) ?_); intro _ _ _ _ lz9; (try k_lt lz9))
  k_with "ite" => first | refine iteT (by with_reducible assumption) ?_ | refine iteF (by with_reducible assumption) ?_
  k_with "CompSrc" => refine hold ?_
  k_with "eval Name" => (k_here; (with_reducible show wpAny _ _ (eval (Expr.Name _ _) (compEnvC _ _ _ _)) _ _ _); k_dflt (refine LCgL.ld_own (by k_asm) (.tail _ (.head _)) (by assumption) (by assumption) ?_))
  k_with "subscriptTail Name BinOp ref int" => refine hold ?_
  k_with "binaryOp Add str str" => (refine add_str (fun _ _ => ?_) (by first | (rw [sizeLine_eq]; omega) | (simp only [Str.length_append]; rw [sizeLine_eq]; omega)))
  k_with "execs cons" => (k_dflt (show wpAny _ _ (execs (Stmt.Assign [Expr.Name (Str.ofString "stream") _] _ _ :: _) _) _ _ _); refine hold ?_)
  unfold lawEnv at next ⊢
  rw [show lawB.drop 5 = _ :: _ from rfl, show lawSc = ⟨_, _, _, _, _⟩ from rfl] at next
  rw [show lawB.drop 4 = _ :: _ from rfl, show lawSc = ⟨_, _, _, _, _⟩ from rfl]
  have F1 := frMap (m' := fun z => if z = Str.ofString "fronts" then some (.ref Fa) else if z = Str.ofString "starts" then some (.ref Sa) else if z = Str.ofString "text" then some (.ref Ta) else m z) F (fun z => by
      by_cases h1 : z = Str.ofString "fronts"
      · rw [if_pos h1, h1, mF]
      · rw [if_neg h1]
        by_cases h2 : z = Str.ofString "starts"
        · rw [if_pos h2, h2, mS]
        · rw [if_neg h2]
          by_cases h3 : z = Str.ofString "text"
          · rw [if_pos h3, h3, mT]
          · rw [if_neg h3])
  clear F
  have next' := hold next
  clear next
  k_steps
  refine Hold.out (LCg.CompSrc.ledger rfl (by k_asm) (by k_asm) hS (by rw [List.size_toArray, intsLen hIs, sizeLine_eq]; omega) (fun g1 => ?_))
  refine compInv (n := _) (fun i ys nw' => (∀ q ∈ news, q ∈ nw') ∧ StrsAre ys ((ss.take i).map gateS)) ?_ ?_ _ 0 [] _ (by rw [Nat.zero_add]) ⟨fun _ h => h, .nil⟩
  · intro i v ys nw' I oI C oC D2 m₂ h tk E' hi hP hJ hC hx F9 N9 off9 ne9
    obtain ⟨hs', hY⟩ := hJ
    rw [List.getElem?_toArray] at hP
    obtain ⟨x, t, rfl, hx'⟩ := intsAt hIs hP
    have hxb := hss x (List.mem_of_getElem? hx')
    have tk1 : (ss.take (i + 1)).map gateS = (ss.take i).map gateS ++ [gateS x] := by
      rw [List.take_add_one, hx', Option.toList, List.map_append]; rfl
    have hS' := hs' _ hS
    have hc : x = 1 ∨ x = 2 ∨ x = 3 ∨ x = 4 ∨ x = 5 := by omega
    rcases hc with rfl | rfl | rfl | rfl | rfl
    all_goals k_steps
    all_goals refine LCg.CompEnd.intro (by assumption) (by assumption) nw' (fun p hp => .tail _ hp) off9 (.inr ⟨_, hS', rfl, _, rfl⟩) ⟨hs', ?_⟩
    · rw [tk1, show gateS 1 = (Str.ofString "\\" ++ Txt.item (Str.ofString "abcde") (1 - 1)) ++ Str.ofString "\n" from by decide +kernel]; exact StrsAre.append' hY (.cons _ _ .nil)
    · rw [tk1, show gateS 2 = (Str.ofString "" ++ Txt.item (Str.ofString "abcde") (2 - 1)) ++ Str.ofString "\n" from by decide +kernel]; exact StrsAre.append' hY (.cons _ _ .nil)
    · rw [tk1, show gateS 3 = (Str.ofString "\\" ++ Txt.item (Str.ofString "abcde") (3 - 1)) ++ Str.ofString "\n" from by decide +kernel]; exact StrsAre.append' hY (.cons _ _ .nil)
    · rw [tk1, show gateS 4 = (Str.ofString "" ++ Txt.item (Str.ofString "abcde") (4 - 1)) ++ Str.ofString "\n" from by decide +kernel]; exact StrsAre.append' hY (.cons _ _ .nil)
    · rw [tk1, show gateS 5 = (Str.ofString "\\" ++ Txt.item (Str.ofString "abcde") (5 - 1)) ++ Str.ofString "\n" from by decide +kernel]; exact StrsAre.append' hY (.cons _ _ .nil)
  · intro ys nw' hJ
    obtain ⟨hs', hY⟩ := hJ
    unfold LCg.FinE
    intro D h tk F9 N9 off9
    have hT' := hs' _ hT
    refine addLed F9 N9 (.tail _ hT') (.head _) (by rw [strsLen hTs, strsLen hY, List.length_map, List.length_take]; omega) ?_
    intro D3 h3 F3 N3 l3
    k_steps
    have e1 : (ss.take vS.toArray.size).map gateS = ss.map gateS := by rw [List.size_toArray, intsLen hIs, List.take_length]
    rw [e1] at hY
    refine Hold.out (Hold.out next' D3 (vT ++ ys) 0 _ _ _ _ (by k_asm) rfl rfl rfl (by k_asm) (fun q hq => .tail _ (.tail _ (hs' q hq))) (.head _) (StrsAre.append' hTs hY))
end
/-! part PgZ -/
theorem glue_cps : ∀ (r : List Str) (acc : Array Nat), (r.foldl (fun acc p => acc ++ (Str.ofString "").cps ++ p.cps) acc).toList = acc.toList ++ r.flatMap (·.cps.toList)
  | [], acc => by simp
  | x :: r, acc => by
    rw [List.foldl_cons, glue_cps r, List.flatMap_cons]
    have e : (Str.ofString "").cps = #[] := by decide
    simp [e]
theorem join_cps (ts : List Str) : (Txt.join (Str.ofString "") ts).cps.toList = ts.flatMap (·.cps.toList) := by
  unfold Txt.join
  unfold Builtin.Str.glued
  dsimp only
  cases ts with
  | nil => rfl
  | cons x r => rw [List.drop_one, List.tail_cons, List.headD_cons, glue_cps, List.flatMap_cons]
theorem lens_le : ∀ {ts : List Str} {k : Nat}, (∀ x ∈ ts, x.length ≤ k) → (ts.map (·.length)).sum ≤ ts.length * k
  | [], _, _ => by simp
  | x :: r, k, h => by
    have h1 := h x (.head _)
    have h2 := lens_le (ts := r) (k := k) fun y hy => h y (.tail _ hy)
    rw [List.map_cons, List.sum_cons, List.length_cons, Nat.succ_mul]
    omega
theorem flat_len : ∀ (ts : List Str), (ts.flatMap (·.cps.toList)).length = (ts.map (·.length)).sum
  | [] => rfl
  | x :: r => by rw [List.flatMap_cons, List.length_append, flat_len r, List.map_cons, List.sum_cons]; rfl
theorem join_len (ts : List Str) : (Txt.join (Str.ofString "") ts).length = (ts.map (·.length)).sum := by
  rw [← flat_len, ← join_cps]; rfl
theorem strsVals {vs : List Value} {ss : List Str} (h : StrsAre vs ss) : ∃ l : List (Str × Tok), vs = strValues l ∧ l.map (·.1) = ss := by
  induction h with
  | nil => exact ⟨[], rfl, rfl⟩
  | cons y t h ih =>
    obtain ⟨l, rfl, e⟩ := ih
    exact ⟨(y, t) :: l, rfl, by simp [e]⟩
theorem listStrLed {prog : Program} {w : World} {A : Around} {E : Value → Shared → Prop} {s : Shared} {h₀ : Heap} {L : Addr} {m : Str → Option Value} {x : Str} {t : Tok} {news : List (Addr × Obj)} {Q : Value → Shared → Prop} (hh : A.handled = none) (F : Fr h₀ L s.heap m) (N : News h₀ L s.heap news) (hz : x.length ≤ 10000)
    (h : ∀ (D : Addr) (l : List (Str × Tok)) (n : Nat) (h' : Heap) (tk' : Nat), Fr h₀ L h' m → News h₀ L h' ((D, listOf (strValues l).toArray n) :: news) → (∀ p ∈ news, @LT.lt Nat _ p.1 D) → l.map (·.1) = signs x → Q (.ref D) { s with heap := h', toks := tk' }) :
    wpAny (model prog w) A (call (.type "list") [.str x t]) Q E s := by
  refine list_strD hh F N (fun h' tk ys F' N' hk hn hl hnp hc => ?_) (by rw [sizeLine_eq]; omega)
  obtain ⟨l, rfl, e⟩ := strsVals (StrsAre.ofCarried hc)
  obtain ⟨⟨n, hp⟩, hne⟩ := hnp
  refine h _ l n h' tk F' (fun p hp' => ?_) (fun p hp' => Heap.lt_size (N p hp').1) e
  rcases List.mem_cons.mp hp' with rfl | hp'
  · exact ⟨hp, NewPlain.ne_locals ⟨⟨n, hp⟩, hne⟩ F', hn⟩
  · exact N' p hp'
section
variable {w : World} {p : Program} {loose : List Str} {mean : ExcName → Option Value} {mg mb : Str → Option Value} {g : Heap} {L fa : Addr} {cd : Value} {s : Shared} {m : Str → Option Value} {Q : Flow → Shared → Prop}
theorem law_D {Fa Sa Ta : Addr} {vT : List Value} {ts : List Str} {nT : Nat} {news : List (Addr × Obj)}
    (X : (Mine.hd.heap_39 w.params).In g) (T : Top p loose mean mg mb g) (K : Below callerA g [] g) (CH : CodeHd g 104 100) (l0 : @LT.lt Nat _ 100 L) (htl : ts.length ≤ 16) (hb : ∀ x ∈ ts, x.length ≤ 50)
    (F : Fr g L s.heap m) (mF : m (Str.ofString "fronts") = some (.ref Fa)) (mS : m (Str.ofString "starts") = some (.ref Sa)) (mT : m (Str.ofString "text") = some (.ref Ta)) (N : News g L s.heap news)
    (hcT : CellIn (L + 1 + 1 + 1) none news) (h100 : (100, tabObj #[]) ∈ news) (hT : (Ta, listOf vT.toArray nT) ∈ news) (hTs : StrsAre vT ts)
    (next : ∀ (σ : Sta) (l : List (Str × Tok)) (h' : Heap) (tk' : Nat) (m' : Str → Option Value) (news' : List (Addr × Obj)), Fr g L h' m' → m' (Str.ofString "fronts") = some (.ref Fa) → m' (Str.ofString "starts") = some (.ref Sa) → News g L h' news' → Keep [100, L + 1 + 1 + 1] news news' → (∃ xs, (100, tabObj xs) ∈ news') → CellIn (L + 1 + 1 + 1) (some (.ref σ.S)) news' →
      StaIn w.params σ news' → LeftIn σ.lf (strValues l) news' → l.map (·.1) = signs (Txt.join (Str.ofString "") ts) → (∀ p ∈ news, @LT.lt Nat _ p.1 σ.lf) → wpAny (model PySem.Challenge.rw_pg0063_01.row.prog w) (callerA.deeper (lawEnv L fa cd)) (execs (lawB.drop 6) (lawEnv L fa cd)) Q (fun _ _ => False) { s with heap := h', toks := tk' }) :
    wpAny (model PySem.Challenge.rw_pg0063_01.row.prog w) (callerA.deeper (lawEnv L fa cd)) (execs (lawB.drop 5) (lawEnv L fa cd)) Q (fun _ _ => False) s := by
  k_with_none
  w_top off
  k_with "call builtin:list.pop" => (k_here; (with_reducible show wpAny _ _ (call (Value.builtin _) [Value.ref _, Value.int 0 _]) _ _ _); k_dflt (refine pop0 (by k_asm) (by k_asm) (by k_upd) (by assumption) ?_); intro _ _ _)
  k_with "truthy ref" => (k_here; k_dflt (refine truthyCons (by k_asm) (by k_mem) (by assumption) ?_); (try rw [if_pos rfl]))
  k_with "call builtin:len" => (k_here; (with_reducible show wpAny _ _ (call (Value.builtin "len") [Value.ref _]) _ _ _); k_dflt (refine lenLed (by k_asm) (by k_mem) (by first | assumption | (simp only [List.length_cons, List.length_nil]; omega)) ?_))
  k_with "call builtin:iter" => (k_here; (with_reducible show wpAny _ _ (call (Value.builtin "iter") [Value.ref _, Value.str _ _]) _ _ _); k_dflt (refine iter2 (by k_asm) (by k_asm) (by k_mem) ?_); intro _ _ _ _ lz9; (try k_lt lz9))
  k_with "call builtin:str.join" => refine hold ?_
  k_with "call type:list" => refine hold ?_
  k_with "execs cons" => (k_dflt (show wpAny _ _ (execs (Stmt.Assign [Expr.Tuple _ _ _] _ _ :: _) _) _ _ _); refine hold ?_)
  k_with "call ref" => (k_dflt (show wpAny _ _ (call (Value.ref 105) [Value.ref _]) _ _ _); refine hold ?_)
  unfold lawEnv at next ⊢
  rw [show lawB.drop 6 = _ :: _ from rfl, show lawSc = ⟨_, _, _, _, _⟩ from rfl] at next
  rw [show lawB.drop 5 = _ :: _ from rfl, show lawSc = ⟨_, _, _, _, _⟩ from rfl]
  have F1 := frMap (m' := fun z => if z = Str.ofString "fronts" then some (.ref Fa) else if z = Str.ofString "starts" then some (.ref Sa) else if z = Str.ofString "text" then some (.ref Ta) else m z) F (fun z => by
      by_cases h1 : z = Str.ofString "fronts"
      · rw [if_pos h1, h1, mF]
      · rw [if_neg h1]
        by_cases h2 : z = Str.ofString "starts"
        · rw [if_pos h2, h2, mS]
        · rw [if_neg h2]
          by_cases h3 : z = Str.ofString "text"
          · rw [if_pos h3, h3, mT]
          · rw [if_neg h3])
  clear F
  have next' := hold next
  clear next
  obtain ⟨lT, rfl, eT⟩ := strsVals hTs
  k_steps
  refine Hold.out (joinLed (by k_asm) hT ?_ (fun t1 k1 => ?_))
  · rw [eT]
    have z := lens_le hb
    have e0 : (Str.ofString "").length = 0 := by decide
    rw [e0, Nat.mul_zero]
    have := Nat.mul_le_mul_right 50 htl
    omega
  k_steps
  have hjl : (Txt.join (Str.ofString "") (lT.map (·.1))).length ≤ 800 := by
    rw [join_len, eT]
    have z := lens_le hb
    have := Nat.mul_le_mul_right 50 htl
    omega
  refine Hold.out (listStrLed rfl (by k_asm) (by k_asm) (by omega) (fun D l nl h1 tk1 F2 N2 lt2 el => ?_))
  k_steps
  refine Hold.out (stream_t (by k_asm) (by k_asm) (by k_asm) CH (by k_asm) (by k_asm) (by rfl) (.head _) (.tail _ h100) (lt2 _ h100) (by ktr_room) (by ktr_units) ?_)
  intro σ h' tk' news' F3 N3 hl' hK ht St elf
  obtain ⟨oT, hoT, dT⟩ := hcT
  have hT3 : (L + 1 + 1 + 1, oT) ∈ news' := hK _ (.tail _ hoT) (fun q => by
    have q' : @Eq Nat (L + 1 + 1 + 1) 100 := List.mem_singleton.mp q
    have l0' : @LT.lt Nat _ 100 L := l0
    omega)
  have N4 : News g L h' ((L + 1 + 1 + 1, oT) :: news'.filter fun q => decide (q.1 ≠ L + 1 + 1 + 1)) := fun p hp => by
    rcases List.mem_cons.mp hp with rfl | hp
    · exact N3 _ hT3
    · exact N3 _ (List.mem_filter.mp hp).1
  have hrest : ∀ q ∈ (news'.filter fun q => decide (q.1 ≠ L + 1 + 1 + 1)), q.1 ≠ L + 1 + 1 + 1 := fun q hq => of_decide_eq_true (List.mem_filter.mp hq).2
  have hmem : ∀ q ∈ news', q.1 ≠ L + 1 + 1 + 1 → q ∈ (news'.filter fun q => decide (q.1 ≠ L + 1 + 1 + 1)) := fun q hq hn => List.mem_filter.mpr ⟨hq, decide_eq_true hn⟩
  have N3' := hold N3
  clear N3
  have nf : σ.f ≠ L + 1 + 1 + 1 := apart' (Hold.out N3') St.hf hT3 (neData (by rw [lamObj_eq (e := lamE) rfl]) dT (by intro h; cases h))
  have nc : σ.cod ≠ L + 1 + 1 + 1 := apart' (Hold.out N3') St.hcod hT3 (neData St.oc dT (by intro h; cases h))
  have nl' : σ.cell ≠ L + 1 + 1 + 1 := apart' (Hold.out N3') St.hcell hT3 (neData St.ol dT (by intro h; cases h))
  have nS : σ.S ≠ L + 1 + 1 + 1 := apart' (Hold.out N3') St.hS hT3 (neData rfl dT (by intro h; cases h))
  have nd : σ.dS ≠ L + 1 + 1 + 1 := apart' (Hold.out N3') St.hdS hT3 (neData rfl dT (by intro h; cases h))
  have nlf : D ≠ L + 1 + 1 + 1 := apart' (Hold.out N3') hl' hT3 (neData rfl dT (by intro h; cases h))
  have n100 : (100 : Addr) ≠ L + 1 + 1 + 1 := fun q => by
    have q' : @Eq Nat 100 (L + 1 + 1 + 1) := q
    have l0' : @LT.lt Nat _ 100 L := l0
    omega
  obtain ⟨xs, hxs⟩ := ht
  have hxs' := hmem _ hxs n100
  have St' : StaIn w.params σ (news'.filter fun q => decide (q.1 ≠ L + 1 + 1 + 1)) := ⟨hmem _ St.hf nf, hmem _ St.hcod nc, hmem _ St.hcell nl', hmem _ St.hS nS, hmem _ St.hdS nd, St.oc, St.vs, St.ol⟩
  have hl2 := hmem _ hl' nlf
  generalize (news'.filter fun q => decide (q.1 ≠ L + 1 + 1 + 1)) = rest at *
  k_steps
  (rename _ = Data.cell (some (Value.ref σ.S)) => dNew)
  refine Hold.out (Hold.out next' σ l _ _ _ _ (by k_asm) rfl rfl (by k_asm) ?_ ⟨xs, .tail _ hxs'⟩ ⟨_, .head _, dNew⟩ (St'.mono fun q hq => .tail _ hq) ⟨nl, elf ▸ .tail _ hl2⟩ (by rw [el, eT]) (fun p hp => elf ▸ lt2 p hp))
  intro q hq hn
  refine .tail _ (hmem q (hK q (.tail _ hq) fun z => hn ?_) fun z => hn ?_)
  · rw [List.mem_singleton.mp z]; exact .head _
  · rw [z]; exact .tail _ (.head _)
end
/-! part PhA -/
structure NewRooms (P : Params) (S : Addr) (gs : List Rm) (news0 news : List (Addr × Obj)) : Prop where
  all : ∀ ρ ∈ gs, RmIn P S ρ 1 [] news
  dst : Dst gs
  new : ∀ ρ ∈ gs, ∀ p ∈ news0, @LT.lt Nat _ p.1 ρ.r ∧ @LT.lt Nat _ p.1 ρ.d ∧ @LT.lt Nat _ p.1 ρ.pb
theorem off1_mem {D : Addr} : ∀ {l : List (Addr × Obj)}, LCg.Off1 D l → ∀ p ∈ l, @Ne Nat p.1 D
  | [], _, _, h => nomatch h
  | _ :: _, x, p, h => by
    rcases List.mem_cons.mp h with rfl | h
    · exact x.1
    · exact off1_mem x.2 p h
theorem NewRooms.mono {P : Params} {S : Addr} {gs : List Rm} {news0 nw nw' : List (Addr × Obj)} (h : NewRooms P S gs news0 nw) (hs : ∀ p ∈ nw, p ∈ nw') : NewRooms P S gs news0 nw' := ⟨fun ρ hm => (h.all ρ hm).mono hs, h.dst, h.new⟩
theorem NewRooms.snoc {P : Params} {S : Addr} {gs : List Rm} {ρ : Rm} {news0 nw full nw' : List (Addr × Obj)} (h : NewRooms P S gs news0 nw) (hR : RmIn P S ρ 1 [] nw') (hlt : ∀ p ∈ full, @LT.lt Nat _ p.1 ρ.r ∧ @LT.lt Nat _ p.1 ρ.d ∧ @LT.lt Nat _ p.1 ρ.pb) (h0 : ∀ p ∈ news0, p ∈ full) (h1 : ∀ p ∈ nw, p ∈ full) (h2 : ∀ p ∈ nw, p ∈ nw') : NewRooms P S (gs ++ [ρ]) news0 nw' := by
  have old : ∀ ρ' ∈ gs, @LT.lt Nat _ ρ'.pb ρ.pb ∧ @LT.lt Nat _ ρ'.d ρ.d := fun ρ' hm => by
    obtain ⟨_, e1⟩ := (h.all ρ' hm).hpb
    obtain ⟨_, e2⟩ := (h.all ρ' hm).hd
    exact ⟨(hlt _ (h1 _ e1)).2.2, (hlt _ (h1 _ e2)).2.1⟩
  have one : ∀ {i : Nat} {ρ' : Rm}, (gs ++ [ρ])[i]? = some ρ' → (i < gs.length ∧ gs[i]? = some ρ') ∨ (i = gs.length ∧ ρ' = ρ) := fun {i ρ'} e => by
    by_cases hi : i < gs.length
    · rw [List.getElem?_append_left hi] at e; exact .inl ⟨hi, e⟩
    · rw [List.getElem?_append_right (by omega)] at e
      cases hk : i - gs.length with
      | zero => rw [hk] at e; simp at e; exact .inr ⟨by omega, e.symm⟩
      | succ j => rw [hk] at e; simp at e
  refine ⟨fun ρ' hm => ?_, fun i j ρ1 ρ2 e1 e2 hij => ?_, fun ρ' hm p hp => ?_⟩
  · rcases List.mem_append.mp hm with hm | hm
    · exact (h.all ρ' hm).mono h2
    · rw [List.mem_singleton.mp hm]; exact hR
  · rcases one e1 with ⟨i1, g1⟩ | ⟨i1, g1⟩
    · rcases one e2 with ⟨i2, g2⟩ | ⟨i2, g2⟩
      · exact h.dst i j ρ1 ρ2 g1 g2 hij
      · subst g2
        have z := old ρ1 (List.mem_of_getElem? g1)
        exact ⟨Nat.ne_of_lt z.1, Nat.ne_of_lt z.2⟩
    · rcases one e2 with ⟨i2, g2⟩ | ⟨i2, g2⟩
      · subst g1
        have z := old ρ2 (List.mem_of_getElem? g2)
        exact ⟨Ne.symm (Nat.ne_of_lt z.1), Ne.symm (Nat.ne_of_lt z.2)⟩
      · omega
  · rcases List.mem_append.mp hm with hm | hm
    · exact h.new ρ' hm p hp
    · rw [List.mem_singleton.mp hm]; exact hlt p (h0 p hp)
section
variable {w : World} {p : Program} {loose : List Str} {mean : ExcName → Option Value} {mg mb : Str → Option Value} {g : Heap} {L fa : Addr} {cd : Value} {s : Shared} {m : Str → Option Value} {Q : Flow → Shared → Prop}
theorem law_E {n : Nat} {tn : Tok} {Fa Sa S : Addr} {news : List (Addr × Obj)}
    (X : (Mine.hd.heap_39 w.params).In g) (T : Top p loose mean mg mb g) (K : Below callerA g [] g) (hn2 : 2 ≤ n) (hn5 : n ≤ 5)
    (F : Fr g L s.heap m) (mF : m (Str.ofString "fronts") = some (.ref Fa)) (mS : m (Str.ofString "starts") = some (.ref Sa)) (N : News g L s.heap news)
    (hcS : CellIn (L + 1) (some (.int (n : Int) tn)) news) (hcT : CellIn (L + 1 + 1 + 1) (some (.ref S)) news)
    (next : ∀ (Ra : Addr) (nR : Nat) (gs : List Rm) (γ : Rm) (h' : Heap) (tk' : Nat) (m' : Str → Option Value) (news' : List (Addr × Obj)), Fr g L h' m' → m' (Str.ofString "fronts") = some (.ref Fa) → m' (Str.ofString "starts") = some (.ref Sa) → m' (Str.ofString "rooms") = some (.ref Ra) → m' (Str.ofString "gate") = some (.ref γ.r) → News g L h' news' → (∀ q ∈ news, q ∈ news') →
      gs.length = n → (Ra, listOf (gs.map fun ρ => Value.ref ρ.r).toArray nR) ∈ news' → NewRooms w.params S (gs ++ [γ]) news news' → (∀ ρ ∈ gs ++ [γ], ρ.pb ≠ Ra) → wpAny (model PySem.Challenge.rw_pg0063_01.row.prog w) (callerA.deeper (lawEnv L fa cd)) (execs (lawB.drop 7) (lawEnv L fa cd)) Q (fun _ _ => False) { s with heap := h', toks := tk' }) :
    wpAny (model PySem.Challenge.rw_pg0063_01.row.prog w) (callerA.deeper (lawEnv L fa cd)) (execs (lawB.drop 6) (lawEnv L fa cd)) Q (fun _ _ => False) s := by
  k_with_none
  w_top off
  k_with "call builtin:list.pop" => (k_here; (with_reducible show wpAny _ _ (call (Value.builtin _) [Value.ref _, Value.int 0 _]) _ _ _); k_dflt (refine pop0 (by k_asm) (by k_asm) (by k_upd) (by assumption) ?_); intro _ _ _)
  k_with "truthy ref" => (k_here; k_dflt (refine truthyCons (by k_asm) (by k_mem) (by assumption) ?_); (try rw [if_pos rfl]))
  k_with "call builtin:len" => (k_here; (with_reducible show wpAny _ _ (call (Value.builtin "len") [Value.ref _]) _ _ _); k_dflt (refine lenLed (by k_asm) (by k_mem) (by first | assumption | (simp only [List.length_cons, List.length_nil]; omega)) ?_))
  k_with "call builtin:iter" => (k_here; (with_reducible show wpAny _ _ (call (Value.builtin "iter") [Value.ref _, Value.str _ _]) _ _ _); k_dflt (refine iter2 (by k_asm) (by k_asm) (by k_mem) ?_); intro _ _ _ _ lz9; (try k_lt lz9))
  k_with "CompSrc" => refine hold ?_
  k_with "execs cons" => (k_dflt (show wpAny _ _ (execs (Stmt.If _ _ _ _ :: _) _) _ _ _); refine hold ?_)
  k_with "call ref" => (k_dflt (show wpAny _ _ (call (Value.ref 52) [Value.ref _]) _ _ _); refine hold ?_)
  unfold lawEnv at next ⊢
  rw [show lawB.drop 7 = _ :: _ from rfl, show lawSc = ⟨_, _, _, _, _⟩ from rfl] at next
  rw [show lawB.drop 6 = _ :: _ from rfl, show lawSc = ⟨_, _, _, _, _⟩ from rfl]
  have F1 := frMap (m' := fun z => if z = Str.ofString "fronts" then some (.ref Fa) else if z = Str.ofString "starts" then some (.ref Sa) else m z) F (fun z => by
      by_cases h1 : z = Str.ofString "fronts"
      · rw [if_pos h1, h1, mF]
      · rw [if_neg h1]
        by_cases h2 : z = Str.ofString "starts"
        · rw [if_pos h2, h2, mS]
        · rw [if_neg h2])
  clear F
  have next' := hold next
  clear next
  obtain ⟨oS, hoS, dS⟩ := hcS
  obtain ⟨oT, hoT, dT⟩ := hcT
  k_steps
  (rename IsRange _ _ _ _ _ _ _ _ => hR)
  refine Hold.out (LCg.CompSrc.range (n := n) rfl (by k_asm) (by k_asm) hR (range_small (by omega)) range_size (by rw [sizeLine_eq]; omega) (fun g1 => ?_))
  refine compInv (n := n) (fun i ys nw => (∀ q ∈ news, q ∈ nw) ∧ ∃ gs : List Rm, gs.length = i ∧ ys = gs.map (fun ρ => Value.ref ρ.r) ∧ NewRooms w.params S gs news nw) ?_ ?_ n 0 [] _ (by omega) ⟨fun _ h => h, [], rfl, rfl, ⟨fun _ h => by simp at h, fun i j ρ ρ' h => by simp at h, fun _ h => by simp at h⟩⟩
  · intro i v ys nw I oI C oC D m₂ h tk E' hi hP hJ hC hx F9 N9 off9 ne9
    obtain ⟨hs, gs, hgl, rfl, hG⟩ := hJ
    have hoT' := hs _ hoT
    k_steps
    refine Hold.out (new_t (by k_asm) (by k_asm) (by k_asm) (by k_asm) (by k_asm) (by rfl) (by ktr_room) (by ktr_units) ?_)
    intro ρ h2 tk2 nw2 F2 N2 hs2 hR2 hlt2
    have hr := hR2.hr
    obtain ⟨tl, hd⟩ := hR2.hd
    obtain ⟨np, hpb⟩ := hR2.hpb
    have lI := hlt2 _ (.head _)
    have lC := hlt2 _ (.tail _ (.head _))
    have lD := hlt2 _ (.tail _ (.tail _ (.head _)))
    refine LCg.CompEnd.intro F2 N2 (_ :: _ :: _ :: nw) (fun p hp => ?_) (LCg.Off3.of fun p hp => ?_) trivial ⟨fun q hq => .tail _ (.tail _ (.tail _ (hs q hq))), gs ++ [ρ], by simp [hgl], by simp, hG.snoc (full := _) ⟨.head _, ⟨tl, .tail _ (.head _)⟩, ⟨np, .tail _ (.tail _ (.head _))⟩⟩ hlt2 (fun p hp => .tail _ (.tail _ (.tail _ (hs p hp)))) (fun p hp => .tail _ (.tail _ (.tail _ hp))) (fun p hp => .tail _ (.tail _ (.tail _ hp)))⟩
    · rcases List.mem_cons.mp hp with rfl | hp
      · exact hs2 _ (.head _)
      rcases List.mem_cons.mp hp with rfl | hp
      · exact hs2 _ (.tail _ (.head _))
      rcases List.mem_cons.mp hp with rfl | hp
      · exact hs2 _ (.tail _ (.tail _ (.head _)))
      rcases List.mem_cons.mp hp with rfl | hp
      · exact hr
      rcases List.mem_cons.mp hp with rfl | hp
      · exact hd
      rcases List.mem_cons.mp hp with rfl | hp
      · exact hpb
      · exact hs2 _ (.tail _ (.tail _ (.tail _ hp)))
    · rcases List.mem_cons.mp hp with rfl | hp
      · exact ⟨Ne.symm (Nat.ne_of_lt lI.1), Ne.symm (Nat.ne_of_lt lC.1), Ne.symm (Nat.ne_of_lt lD.1)⟩
      rcases List.mem_cons.mp hp with rfl | hp
      · exact ⟨Ne.symm (Nat.ne_of_lt lI.2.1), Ne.symm (Nat.ne_of_lt lC.2.1), Ne.symm (Nat.ne_of_lt lD.2.1)⟩
      rcases List.mem_cons.mp hp with rfl | hp
      · exact ⟨Ne.symm (Nat.ne_of_lt lI.2.2), Ne.symm (Nat.ne_of_lt lC.2.2), Ne.symm (Nat.ne_of_lt lD.2.2)⟩
      · exact off9.mem p hp
  · intro ys nw hJ
    obtain ⟨hs, gs, hgl, rfl, hG⟩ := hJ
    unfold LCg.FinE
    intro D h tk F9 N9 off9
    have hoT' := hs _ hoT
    k_steps
    refine Hold.out (new_t (by k_asm) (by k_asm) (by k_asm) (by k_asm) (by k_asm) (by rfl) (by ktr_room) (by ktr_units) ?_)
    intro γ h2 tk2 nw2 F2 N2 hs2 hR2 hlt2
    have hG2 := hG.snoc (full := _) hR2 hlt2 (fun p hp => .tail _ (hs p hp)) (fun p hp => .tail _ hp) (fun p hp => hs2 _ (.tail _ hp))
    have hRa := hs2 _ (.head _)
    have hpbD : ∀ ρ ∈ gs ++ [γ], ρ.pb ≠ D := fun ρ hm => by
      rcases List.mem_append.mp hm with hm | hm
      · obtain ⟨_, e1⟩ := (hG.all ρ hm).hpb
        exact off1_mem off9 _ e1
      · rw [List.mem_singleton.mp hm]
        exact Ne.symm (Nat.ne_of_lt (hlt2 _ (.head _)).2.2)
    k_steps
    refine Hold.out (Hold.out next' D _ gs γ _ _ _ _ (by k_asm) rfl rfl rfl rfl (by k_asm) (fun q hq => .tail _ (hs2 _ (.tail _ (hs q hq)))) hgl (.tail _ hRa) (hG2.mono fun p hp => .tail _ hp) hpbD)
end
/-! part PhB -/
theorem map_fst_cons {l : List (Str × Tok)} {c : Str} {cs : List Str} (h : l.map (·.1) = c :: cs) : ∃ t l', l = (c, t) :: l' ∧ l'.map (·.1) = cs := by
  cases l with
  | nil => simp at h
  | cons x l' =>
    obtain ⟨a, t⟩ := x
    simp at h
    exact ⟨t, l', by rw [h.1], h.2⟩
theorem pl2 {c d : Str} {t u : Tok} (h1 : Plain c) (h2 : Plain d) : ∀ x ∈ [(c, t), (d, u)], Plain x.1 := fun x hx => by
  rcases List.mem_cons.mp hx with rfl | hx
  · exact h1
  rcases List.mem_cons.mp hx with rfl | hx
  · exact h2
  cases hx
theorem pl3 {b c d : Str} {r t u : Tok} (h0 : Plain b) (h1 : Plain c) (h2 : Plain d) : ∀ x ∈ [(b, r), (c, t), (d, u)], Plain x.1 := fun x hx => by
  rcases List.mem_cons.mp hx with rfl | hx
  · exact h0
  · exact pl2 h1 h2 x hx
theorem map_fst_nil {l : List (Str × Tok)} (h : l.map (·.1) = []) : l = [] := by simpa using h
theorem plain_a : Plain (Str.ofString "a") := by constructor <;> decide +kernel
theorem plain_d : Plain (Str.ofString "d") := by constructor <;> decide +kernel
theorem plain_s : Plain (Str.ofString "s") := by constructor <;> decide +kernel
theorem plain_u : Plain (Str.ofString "u") := by constructor <;> decide +kernel
theorem plain_b : Plain (Str.ofString "b") := by constructor <;> decide +kernel
theorem plain_c : Plain (Str.ofString "c") := by constructor <;> decide +kernel
theorem plain_e : Plain (Str.ofString "e") := by constructor <;> decide +kernel
section
variable {prog : Program} {w : World} {p : Program} {loose : List Str} {mean : ExcName → Option Value} {mg mb : Str → Option Value} {base : Heap} {σ : Sta} {ρ : Rm} {k : Int} {l l' : List (Str × Tok)}
theorem rd_bare_add_sp (hl' : l'.length ≤ 700) {t0 t1 t2 t3 : Tok} : Reads prog w p loose mean mg mb base σ ρ k (.str (Str.ofString "a") t0 :: (strValues [(Str.ofString "d", t1), (Str.ofString "d", t2)] ++ .str (Str.ofString " ") t3 :: strValues l')) (Str.ofString "add") (k) (strValues l') := by
  intro dp un gd cn cs a ccd cl outer A₀ h₀ L m s Q E news B F X N T hk CH St Rr Lf hpl hpos hdp hun hret
  have hln : (strValues l').length ≤ 700 := by unfold strValues; rw [List.length_map]; exact hl'
  refine tok_bare_k B F X N T hk CH St Rr Lf hpl hpos (by omega) plain_a (pl2 plain_d plain_d) (by simp) (by decide +kernel) (by decide +kernel) (by decide +kernel) (by decide +kernel) hdp hun ?_
  rw [show (Str.ofString "a" ++ cat [(Str.ofString "d", t1), (Str.ofString "d", t2)]) = Str.ofString "add" from by simp only [cat]; decide +kernel]
  exact fun t' h' tk' news' a1 a2 a3 a4 a5 a6 a7 => hret t' h' tk' news' a1 a2 a3 a4 (by rw [if_neg (by decide)] at a5; exact a5) a6 a7
theorem rd_bare_add_nl (hl' : l'.length ≤ 700) {t0 t1 t2 t3 : Tok} : Reads prog w p loose mean mg mb base σ ρ k (.str (Str.ofString "a") t0 :: (strValues [(Str.ofString "d", t1), (Str.ofString "d", t2)] ++ .str (Str.ofString "\n") t3 :: strValues l')) (Str.ofString "add") (k + 1) (strValues l') := by
  intro dp un gd cn cs a ccd cl outer A₀ h₀ L m s Q E news B F X N T hk CH St Rr Lf hpl hpos hdp hun hret
  have hln : (strValues l').length ≤ 700 := by unfold strValues; rw [List.length_map]; exact hl'
  refine tok_bare_k B F X N T hk CH St Rr Lf hpl hpos (by omega) plain_a (pl2 plain_d plain_d) (by simp) (by decide +kernel) (by decide +kernel) (by decide +kernel) (by decide +kernel) hdp hun ?_
  rw [show (Str.ofString "a" ++ cat [(Str.ofString "d", t1), (Str.ofString "d", t2)]) = Str.ofString "add" from by simp only [cat]; decide +kernel]
  exact fun t' h' tk' news' a1 a2 a3 a4 a5 a6 a7 => hret t' h' tk' news' a1 a2 a3 a4 (by rw [if_pos rfl] at a5; exact a5) a6 a7
theorem rd_bare_sub_sp (hl' : l'.length ≤ 700) {t0 t1 t2 t3 : Tok} : Reads prog w p loose mean mg mb base σ ρ k (.str (Str.ofString "s") t0 :: (strValues [(Str.ofString "u", t1), (Str.ofString "b", t2)] ++ .str (Str.ofString " ") t3 :: strValues l')) (Str.ofString "sub") (k) (strValues l') := by
  intro dp un gd cn cs a ccd cl outer A₀ h₀ L m s Q E news B F X N T hk CH St Rr Lf hpl hpos hdp hun hret
  have hln : (strValues l').length ≤ 700 := by unfold strValues; rw [List.length_map]; exact hl'
  refine tok_bare_k B F X N T hk CH St Rr Lf hpl hpos (by omega) plain_s (pl2 plain_u plain_b) (by simp) (by decide +kernel) (by decide +kernel) (by decide +kernel) (by decide +kernel) hdp hun ?_
  rw [show (Str.ofString "s" ++ cat [(Str.ofString "u", t1), (Str.ofString "b", t2)]) = Str.ofString "sub" from by simp only [cat]; decide +kernel]
  exact fun t' h' tk' news' a1 a2 a3 a4 a5 a6 a7 => hret t' h' tk' news' a1 a2 a3 a4 (by rw [if_neg (by decide)] at a5; exact a5) a6 a7
theorem rd_bare_sub_nl (hl' : l'.length ≤ 700) {t0 t1 t2 t3 : Tok} : Reads prog w p loose mean mg mb base σ ρ k (.str (Str.ofString "s") t0 :: (strValues [(Str.ofString "u", t1), (Str.ofString "b", t2)] ++ .str (Str.ofString "\n") t3 :: strValues l')) (Str.ofString "sub") (k + 1) (strValues l') := by
  intro dp un gd cn cs a ccd cl outer A₀ h₀ L m s Q E news B F X N T hk CH St Rr Lf hpl hpos hdp hun hret
  have hln : (strValues l').length ≤ 700 := by unfold strValues; rw [List.length_map]; exact hl'
  refine tok_bare_k B F X N T hk CH St Rr Lf hpl hpos (by omega) plain_s (pl2 plain_u plain_b) (by simp) (by decide +kernel) (by decide +kernel) (by decide +kernel) (by decide +kernel) hdp hun ?_
  rw [show (Str.ofString "s" ++ cat [(Str.ofString "u", t1), (Str.ofString "b", t2)]) = Str.ofString "sub" from by simp only [cat]; decide +kernel]
  exact fun t' h' tk' news' a1 a2 a3 a4 a5 a6 a7 => hret t' h' tk' news' a1 a2 a3 a4 (by rw [if_pos rfl] at a5; exact a5) a6 a7
theorem rd_quote_add (hl' : l'.length ≤ 700) {te t0 t1 t2 t3 : Tok} : Reads prog w p loose mean mg mb base σ ρ k (.str (Str.ofString "\"") te :: (strValues [(Str.ofString "a", t0), (Str.ofString "d", t1), (Str.ofString "d", t2)] ++ .str (Str.ofString "\"") t3 :: strValues l')) (Str.ofString "add") (k) (strValues l') := by
  intro dp un gd cn cs a ccd cl outer A₀ h₀ L m s Q E news B F X N T hk CH St Rr Lf hpl hpos hdp hun hret
  have hln : (strValues l').length ≤ 700 := by unfold strValues; rw [List.length_map]; exact hl'
  refine tok_quote_k B F X N T hk CH St Rr Lf hpl hpos (by omega) rfl (pl3 plain_a plain_d plain_d) (by simp) rfl hdp hun ?_
  rw [show cat [(Str.ofString "a", t0), (Str.ofString "d", t1), (Str.ofString "d", t2)] = Str.ofString "add" from by simp only [cat]; decide +kernel]
  exact fun t' h' tk' news' a1 a2 a3 a4 a5 a6 a7 => hret t' h' tk' news' a1 a2 a3 a4 a5 a6 a7
theorem rd_back_add_sp (hl' : l'.length ≤ 700) {te t0 t1 t2 t3 : Tok} : Reads prog w p loose mean mg mb base σ ρ k (.str (Str.ofString "\\") te :: .str (Str.ofString "a") t0 :: (strValues [(Str.ofString "d", t1), (Str.ofString "d", t2)] ++ .str (Str.ofString " ") t3 :: strValues l')) (Str.ofString "add") (k) (strValues l') := by
  intro dp un gd cn cs a ccd cl outer A₀ h₀ L m s Q E news B F X N T hk CH St Rr Lf hpl hpos hdp hun hret
  have hln : (strValues l').length ≤ 700 := by unfold strValues; rw [List.length_map]; exact hl'
  refine tok_back_k B F X N T hk CH St Rr Lf hpl hpos (by omega) rfl plain_a (pl2 plain_d plain_d) (by simp) (by decide +kernel) (by decide +kernel) (by decide +kernel) (by decide +kernel) hdp hun ?_
  rw [show (Str.ofString "a" ++ cat [(Str.ofString "d", t1), (Str.ofString "d", t2)]) = Str.ofString "add" from by simp only [cat]; decide +kernel]
  exact fun t' h' tk' news' a1 a2 a3 a4 a5 a6 a7 => hret t' h' tk' news' a1 a2 a3 a4 (by rw [if_neg (by decide)] at a5; exact a5) a6 a7
theorem rd_back_add_nl (hl' : l'.length ≤ 700) {te t0 t1 t2 t3 : Tok} : Reads prog w p loose mean mg mb base σ ρ k (.str (Str.ofString "\\") te :: .str (Str.ofString "a") t0 :: (strValues [(Str.ofString "d", t1), (Str.ofString "d", t2)] ++ .str (Str.ofString "\n") t3 :: strValues l')) (Str.ofString "add") (k + 1) (strValues l') := by
  intro dp un gd cn cs a ccd cl outer A₀ h₀ L m s Q E news B F X N T hk CH St Rr Lf hpl hpos hdp hun hret
  have hln : (strValues l').length ≤ 700 := by unfold strValues; rw [List.length_map]; exact hl'
  refine tok_back_k B F X N T hk CH St Rr Lf hpl hpos (by omega) rfl plain_a (pl2 plain_d plain_d) (by simp) (by decide +kernel) (by decide +kernel) (by decide +kernel) (by decide +kernel) hdp hun ?_
  rw [show (Str.ofString "a" ++ cat [(Str.ofString "d", t1), (Str.ofString "d", t2)]) = Str.ofString "add" from by simp only [cat]; decide +kernel]
  exact fun t' h' tk' news' a1 a2 a3 a4 a5 a6 a7 => hret t' h' tk' news' a1 a2 a3 a4 (by rw [if_pos rfl] at a5; exact a5) a6 a7
theorem rd_wbare_add_nl (hl' : l'.length ≤ 700) {tw t0 t1 t2 t3 : Tok} : Reads prog w p loose mean mg mb base σ ρ k (.str (Str.ofString " ") tw :: .str (Str.ofString "a") t0 :: (strValues [(Str.ofString "d", t1), (Str.ofString "d", t2)] ++ .str (Str.ofString "\n") t3 :: strValues l')) (Str.ofString "add") (k + 1) (strValues l') := by
  intro dp un gd cn cs a ccd cl outer A₀ h₀ L m s Q E news B F X N T hk CH St Rr Lf hpl hpos hdp hun hret
  have hln : (strValues l').length ≤ 700 := by unfold strValues; rw [List.length_map]; exact hl'
  refine tok_wbare_k B F X N T hk CH St Rr Lf hpl hpos (by omega) (by decide +kernel) (by decide +kernel) (by decide +kernel) (by decide +kernel) (by decide +kernel) plain_a (pl2 plain_d plain_d) (by simp) (by omega) (by decide +kernel) (by decide +kernel) (by decide +kernel) (by decide +kernel) hdp hun ?_
  rw [show (Str.ofString "a" ++ cat [(Str.ofString "d", t1), (Str.ofString "d", t2)]) = Str.ofString "add" from by simp only [cat]; decide +kernel]
  exact fun t' h' tk' news' a1 a2 a3 a4 a5 a6 a7 => hret t' h' tk' news' a1 a2 a3 a4 (by rw [if_pos rfl] at a5; exact a5) a6 a7
theorem rd_wback_add_nl (hl' : l'.length ≤ 700) {tw te t0 t1 t2 t3 : Tok} : Reads prog w p loose mean mg mb base σ ρ k (.str (Str.ofString " ") tw :: .str (Str.ofString "\\") te :: .str (Str.ofString "a") t0 :: (strValues [(Str.ofString "d", t1), (Str.ofString "d", t2)] ++ .str (Str.ofString "\n") t3 :: strValues l')) (Str.ofString "add") (k + 1) (strValues l') := by
  intro dp un gd cn cs a ccd cl outer A₀ h₀ L m s Q E news B F X N T hk CH St Rr Lf hpl hpos hdp hun hret
  have hln : (strValues l').length ≤ 700 := by unfold strValues; rw [List.length_map]; exact hl'
  refine tok_wback_k B F X N T hk CH St Rr Lf hpl hpos (by omega) (by decide +kernel) (by decide +kernel) (by decide +kernel) (by decide +kernel) (by decide +kernel) rfl plain_a (pl2 plain_d plain_d) (by simp) (by omega) (by decide +kernel) (by decide +kernel) (by decide +kernel) (by decide +kernel) hdp hun ?_
  rw [show (Str.ofString "a" ++ cat [(Str.ofString "d", t1), (Str.ofString "d", t2)]) = Str.ofString "add" from by simp only [cat]; decide +kernel]
  exact fun t' h' tk' news' a1 a2 a3 a4 a5 a6 a7 => hret t' h' tk' news' a1 a2 a3 a4 (by rw [if_pos rfl] at a5; exact a5) a6 a7
theorem rd_quote_sub (hl' : l'.length ≤ 700) {te t0 t1 t2 t3 : Tok} : Reads prog w p loose mean mg mb base σ ρ k (.str (Str.ofString "\"") te :: (strValues [(Str.ofString "s", t0), (Str.ofString "u", t1), (Str.ofString "b", t2)] ++ .str (Str.ofString "\"") t3 :: strValues l')) (Str.ofString "sub") (k) (strValues l') := by
  intro dp un gd cn cs a ccd cl outer A₀ h₀ L m s Q E news B F X N T hk CH St Rr Lf hpl hpos hdp hun hret
  have hln : (strValues l').length ≤ 700 := by unfold strValues; rw [List.length_map]; exact hl'
  refine tok_quote_k B F X N T hk CH St Rr Lf hpl hpos (by omega) rfl (pl3 plain_s plain_u plain_b) (by simp) rfl hdp hun ?_
  rw [show cat [(Str.ofString "s", t0), (Str.ofString "u", t1), (Str.ofString "b", t2)] = Str.ofString "sub" from by simp only [cat]; decide +kernel]
  exact fun t' h' tk' news' a1 a2 a3 a4 a5 a6 a7 => hret t' h' tk' news' a1 a2 a3 a4 a5 a6 a7
theorem rd_back_sub_sp (hl' : l'.length ≤ 700) {te t0 t1 t2 t3 : Tok} : Reads prog w p loose mean mg mb base σ ρ k (.str (Str.ofString "\\") te :: .str (Str.ofString "s") t0 :: (strValues [(Str.ofString "u", t1), (Str.ofString "b", t2)] ++ .str (Str.ofString " ") t3 :: strValues l')) (Str.ofString "sub") (k) (strValues l') := by
  intro dp un gd cn cs a ccd cl outer A₀ h₀ L m s Q E news B F X N T hk CH St Rr Lf hpl hpos hdp hun hret
  have hln : (strValues l').length ≤ 700 := by unfold strValues; rw [List.length_map]; exact hl'
  refine tok_back_k B F X N T hk CH St Rr Lf hpl hpos (by omega) rfl plain_s (pl2 plain_u plain_b) (by simp) (by decide +kernel) (by decide +kernel) (by decide +kernel) (by decide +kernel) hdp hun ?_
  rw [show (Str.ofString "s" ++ cat [(Str.ofString "u", t1), (Str.ofString "b", t2)]) = Str.ofString "sub" from by simp only [cat]; decide +kernel]
  exact fun t' h' tk' news' a1 a2 a3 a4 a5 a6 a7 => hret t' h' tk' news' a1 a2 a3 a4 (by rw [if_neg (by decide)] at a5; exact a5) a6 a7
theorem rd_back_sub_nl (hl' : l'.length ≤ 700) {te t0 t1 t2 t3 : Tok} : Reads prog w p loose mean mg mb base σ ρ k (.str (Str.ofString "\\") te :: .str (Str.ofString "s") t0 :: (strValues [(Str.ofString "u", t1), (Str.ofString "b", t2)] ++ .str (Str.ofString "\n") t3 :: strValues l')) (Str.ofString "sub") (k + 1) (strValues l') := by
  intro dp un gd cn cs a ccd cl outer A₀ h₀ L m s Q E news B F X N T hk CH St Rr Lf hpl hpos hdp hun hret
  have hln : (strValues l').length ≤ 700 := by unfold strValues; rw [List.length_map]; exact hl'
  refine tok_back_k B F X N T hk CH St Rr Lf hpl hpos (by omega) rfl plain_s (pl2 plain_u plain_b) (by simp) (by decide +kernel) (by decide +kernel) (by decide +kernel) (by decide +kernel) hdp hun ?_
  rw [show (Str.ofString "s" ++ cat [(Str.ofString "u", t1), (Str.ofString "b", t2)]) = Str.ofString "sub" from by simp only [cat]; decide +kernel]
  exact fun t' h' tk' news' a1 a2 a3 a4 a5 a6 a7 => hret t' h' tk' news' a1 a2 a3 a4 (by rw [if_pos rfl] at a5; exact a5) a6 a7
theorem rd_wbare_sub_nl (hl' : l'.length ≤ 700) {tw t0 t1 t2 t3 : Tok} : Reads prog w p loose mean mg mb base σ ρ k (.str (Str.ofString " ") tw :: .str (Str.ofString "s") t0 :: (strValues [(Str.ofString "u", t1), (Str.ofString "b", t2)] ++ .str (Str.ofString "\n") t3 :: strValues l')) (Str.ofString "sub") (k + 1) (strValues l') := by
  intro dp un gd cn cs a ccd cl outer A₀ h₀ L m s Q E news B F X N T hk CH St Rr Lf hpl hpos hdp hun hret
  have hln : (strValues l').length ≤ 700 := by unfold strValues; rw [List.length_map]; exact hl'
  refine tok_wbare_k B F X N T hk CH St Rr Lf hpl hpos (by omega) (by decide +kernel) (by decide +kernel) (by decide +kernel) (by decide +kernel) (by decide +kernel) plain_s (pl2 plain_u plain_b) (by simp) (by omega) (by decide +kernel) (by decide +kernel) (by decide +kernel) (by decide +kernel) hdp hun ?_
  rw [show (Str.ofString "s" ++ cat [(Str.ofString "u", t1), (Str.ofString "b", t2)]) = Str.ofString "sub" from by simp only [cat]; decide +kernel]
  exact fun t' h' tk' news' a1 a2 a3 a4 a5 a6 a7 => hret t' h' tk' news' a1 a2 a3 a4 (by rw [if_pos rfl] at a5; exact a5) a6 a7
theorem rd_wback_sub_nl (hl' : l'.length ≤ 700) {tw te t0 t1 t2 t3 : Tok} : Reads prog w p loose mean mg mb base σ ρ k (.str (Str.ofString " ") tw :: .str (Str.ofString "\\") te :: .str (Str.ofString "s") t0 :: (strValues [(Str.ofString "u", t1), (Str.ofString "b", t2)] ++ .str (Str.ofString "\n") t3 :: strValues l')) (Str.ofString "sub") (k + 1) (strValues l') := by
  intro dp un gd cn cs a ccd cl outer A₀ h₀ L m s Q E news B F X N T hk CH St Rr Lf hpl hpos hdp hun hret
  have hln : (strValues l').length ≤ 700 := by unfold strValues; rw [List.length_map]; exact hl'
  refine tok_wback_k B F X N T hk CH St Rr Lf hpl hpos (by omega) (by decide +kernel) (by decide +kernel) (by decide +kernel) (by decide +kernel) (by decide +kernel) rfl plain_s (pl2 plain_u plain_b) (by simp) (by omega) (by decide +kernel) (by decide +kernel) (by decide +kernel) (by decide +kernel) hdp hun ?_
  rw [show (Str.ofString "s" ++ cat [(Str.ofString "u", t1), (Str.ofString "b", t2)]) = Str.ofString "sub" from by simp only [cat]; decide +kernel]
  exact fun t' h' tk' news' a1 a2 a3 a4 a5 a6 a7 => hret t' h' tk' news' a1 a2 a3 a4 (by rw [if_pos rfl] at a5; exact a5) a6 a7
theorem rd_one_a (hl' : l'.length ≤ 700) {t0 t3 : Tok} : Reads prog w p loose mean mg mb base σ ρ k (.str (Str.ofString "a") t0 :: (strValues [] ++ .str (Str.ofString "\n") t3 :: strValues l')) (Str.ofString "a") (k + 1) (strValues l') := by
  intro dp un gd cn cs a ccd cl outer A₀ h₀ L m s Q E news B F X N T hk CH St Rr Lf hpl hpos hdp hun hret
  have hln : (strValues l').length ≤ 700 := by unfold strValues; rw [List.length_map]; exact hl'
  refine tok_bare_k B F X N T hk CH St Rr Lf hpl hpos (by omega) plain_a (by intro x hx; cases hx) (by simp) (by decide +kernel) (by decide +kernel) (by decide +kernel) (by decide +kernel) hdp hun ?_
  rw [show (Str.ofString "a" ++ cat []) = Str.ofString "a" from by simp only [cat]; decide +kernel]
  exact fun t' h' tk' news' a1 a2 a3 a4 a5 a6 a7 => hret t' h' tk' news' a1 a2 a3 a4 (by rw [if_pos rfl] at a5; exact a5) a6 a7
theorem rd_bone_a (hl' : l'.length ≤ 700) {te t0 t3 : Tok} : Reads prog w p loose mean mg mb base σ ρ k (.str (Str.ofString "\\") te :: .str (Str.ofString "a") t0 :: (strValues [] ++ .str (Str.ofString "\n") t3 :: strValues l')) (Str.ofString "a") (k + 1) (strValues l') := by
  intro dp un gd cn cs a ccd cl outer A₀ h₀ L m s Q E news B F X N T hk CH St Rr Lf hpl hpos hdp hun hret
  have hln : (strValues l').length ≤ 700 := by unfold strValues; rw [List.length_map]; exact hl'
  refine tok_back_k B F X N T hk CH St Rr Lf hpl hpos (by omega) rfl plain_a (by intro x hx; cases hx) (by simp) (by decide +kernel) (by decide +kernel) (by decide +kernel) (by decide +kernel) hdp hun ?_
  rw [show (Str.ofString "a" ++ cat []) = Str.ofString "a" from by simp only [cat]; decide +kernel]
  exact fun t' h' tk' news' a1 a2 a3 a4 a5 a6 a7 => hret t' h' tk' news' a1 a2 a3 a4 (by rw [if_pos rfl] at a5; exact a5) a6 a7
theorem rd_one_b (hl' : l'.length ≤ 700) {t0 t3 : Tok} : Reads prog w p loose mean mg mb base σ ρ k (.str (Str.ofString "b") t0 :: (strValues [] ++ .str (Str.ofString "\n") t3 :: strValues l')) (Str.ofString "b") (k + 1) (strValues l') := by
  intro dp un gd cn cs a ccd cl outer A₀ h₀ L m s Q E news B F X N T hk CH St Rr Lf hpl hpos hdp hun hret
  have hln : (strValues l').length ≤ 700 := by unfold strValues; rw [List.length_map]; exact hl'
  refine tok_bare_k B F X N T hk CH St Rr Lf hpl hpos (by omega) plain_b (by intro x hx; cases hx) (by simp) (by decide +kernel) (by decide +kernel) (by decide +kernel) (by decide +kernel) hdp hun ?_
  rw [show (Str.ofString "b" ++ cat []) = Str.ofString "b" from by simp only [cat]; decide +kernel]
  exact fun t' h' tk' news' a1 a2 a3 a4 a5 a6 a7 => hret t' h' tk' news' a1 a2 a3 a4 (by rw [if_pos rfl] at a5; exact a5) a6 a7
theorem rd_bone_b (hl' : l'.length ≤ 700) {te t0 t3 : Tok} : Reads prog w p loose mean mg mb base σ ρ k (.str (Str.ofString "\\") te :: .str (Str.ofString "b") t0 :: (strValues [] ++ .str (Str.ofString "\n") t3 :: strValues l')) (Str.ofString "b") (k + 1) (strValues l') := by
  intro dp un gd cn cs a ccd cl outer A₀ h₀ L m s Q E news B F X N T hk CH St Rr Lf hpl hpos hdp hun hret
  have hln : (strValues l').length ≤ 700 := by unfold strValues; rw [List.length_map]; exact hl'
  refine tok_back_k B F X N T hk CH St Rr Lf hpl hpos (by omega) rfl plain_b (by intro x hx; cases hx) (by simp) (by decide +kernel) (by decide +kernel) (by decide +kernel) (by decide +kernel) hdp hun ?_
  rw [show (Str.ofString "b" ++ cat []) = Str.ofString "b" from by simp only [cat]; decide +kernel]
  exact fun t' h' tk' news' a1 a2 a3 a4 a5 a6 a7 => hret t' h' tk' news' a1 a2 a3 a4 (by rw [if_pos rfl] at a5; exact a5) a6 a7
theorem rd_one_c (hl' : l'.length ≤ 700) {t0 t3 : Tok} : Reads prog w p loose mean mg mb base σ ρ k (.str (Str.ofString "c") t0 :: (strValues [] ++ .str (Str.ofString "\n") t3 :: strValues l')) (Str.ofString "c") (k + 1) (strValues l') := by
  intro dp un gd cn cs a ccd cl outer A₀ h₀ L m s Q E news B F X N T hk CH St Rr Lf hpl hpos hdp hun hret
  have hln : (strValues l').length ≤ 700 := by unfold strValues; rw [List.length_map]; exact hl'
  refine tok_bare_k B F X N T hk CH St Rr Lf hpl hpos (by omega) plain_c (by intro x hx; cases hx) (by simp) (by decide +kernel) (by decide +kernel) (by decide +kernel) (by decide +kernel) hdp hun ?_
  rw [show (Str.ofString "c" ++ cat []) = Str.ofString "c" from by simp only [cat]; decide +kernel]
  exact fun t' h' tk' news' a1 a2 a3 a4 a5 a6 a7 => hret t' h' tk' news' a1 a2 a3 a4 (by rw [if_pos rfl] at a5; exact a5) a6 a7
theorem rd_bone_c (hl' : l'.length ≤ 700) {te t0 t3 : Tok} : Reads prog w p loose mean mg mb base σ ρ k (.str (Str.ofString "\\") te :: .str (Str.ofString "c") t0 :: (strValues [] ++ .str (Str.ofString "\n") t3 :: strValues l')) (Str.ofString "c") (k + 1) (strValues l') := by
  intro dp un gd cn cs a ccd cl outer A₀ h₀ L m s Q E news B F X N T hk CH St Rr Lf hpl hpos hdp hun hret
  have hln : (strValues l').length ≤ 700 := by unfold strValues; rw [List.length_map]; exact hl'
  refine tok_back_k B F X N T hk CH St Rr Lf hpl hpos (by omega) rfl plain_c (by intro x hx; cases hx) (by simp) (by decide +kernel) (by decide +kernel) (by decide +kernel) (by decide +kernel) hdp hun ?_
  rw [show (Str.ofString "c" ++ cat []) = Str.ofString "c" from by simp only [cat]; decide +kernel]
  exact fun t' h' tk' news' a1 a2 a3 a4 a5 a6 a7 => hret t' h' tk' news' a1 a2 a3 a4 (by rw [if_pos rfl] at a5; exact a5) a6 a7
theorem rd_one_d (hl' : l'.length ≤ 700) {t0 t3 : Tok} : Reads prog w p loose mean mg mb base σ ρ k (.str (Str.ofString "d") t0 :: (strValues [] ++ .str (Str.ofString "\n") t3 :: strValues l')) (Str.ofString "d") (k + 1) (strValues l') := by
  intro dp un gd cn cs a ccd cl outer A₀ h₀ L m s Q E news B F X N T hk CH St Rr Lf hpl hpos hdp hun hret
  have hln : (strValues l').length ≤ 700 := by unfold strValues; rw [List.length_map]; exact hl'
  refine tok_bare_k B F X N T hk CH St Rr Lf hpl hpos (by omega) plain_d (by intro x hx; cases hx) (by simp) (by decide +kernel) (by decide +kernel) (by decide +kernel) (by decide +kernel) hdp hun ?_
  rw [show (Str.ofString "d" ++ cat []) = Str.ofString "d" from by simp only [cat]; decide +kernel]
  exact fun t' h' tk' news' a1 a2 a3 a4 a5 a6 a7 => hret t' h' tk' news' a1 a2 a3 a4 (by rw [if_pos rfl] at a5; exact a5) a6 a7
theorem rd_bone_d (hl' : l'.length ≤ 700) {te t0 t3 : Tok} : Reads prog w p loose mean mg mb base σ ρ k (.str (Str.ofString "\\") te :: .str (Str.ofString "d") t0 :: (strValues [] ++ .str (Str.ofString "\n") t3 :: strValues l')) (Str.ofString "d") (k + 1) (strValues l') := by
  intro dp un gd cn cs a ccd cl outer A₀ h₀ L m s Q E news B F X N T hk CH St Rr Lf hpl hpos hdp hun hret
  have hln : (strValues l').length ≤ 700 := by unfold strValues; rw [List.length_map]; exact hl'
  refine tok_back_k B F X N T hk CH St Rr Lf hpl hpos (by omega) rfl plain_d (by intro x hx; cases hx) (by simp) (by decide +kernel) (by decide +kernel) (by decide +kernel) (by decide +kernel) hdp hun ?_
  rw [show (Str.ofString "d" ++ cat []) = Str.ofString "d" from by simp only [cat]; decide +kernel]
  exact fun t' h' tk' news' a1 a2 a3 a4 a5 a6 a7 => hret t' h' tk' news' a1 a2 a3 a4 (by rw [if_pos rfl] at a5; exact a5) a6 a7
theorem rd_one_e (hl' : l'.length ≤ 700) {t0 t3 : Tok} : Reads prog w p loose mean mg mb base σ ρ k (.str (Str.ofString "e") t0 :: (strValues [] ++ .str (Str.ofString "\n") t3 :: strValues l')) (Str.ofString "e") (k + 1) (strValues l') := by
  intro dp un gd cn cs a ccd cl outer A₀ h₀ L m s Q E news B F X N T hk CH St Rr Lf hpl hpos hdp hun hret
  have hln : (strValues l').length ≤ 700 := by unfold strValues; rw [List.length_map]; exact hl'
  refine tok_bare_k B F X N T hk CH St Rr Lf hpl hpos (by omega) plain_e (by intro x hx; cases hx) (by simp) (by decide +kernel) (by decide +kernel) (by decide +kernel) (by decide +kernel) hdp hun ?_
  rw [show (Str.ofString "e" ++ cat []) = Str.ofString "e" from by simp only [cat]; decide +kernel]
  exact fun t' h' tk' news' a1 a2 a3 a4 a5 a6 a7 => hret t' h' tk' news' a1 a2 a3 a4 (by rw [if_pos rfl] at a5; exact a5) a6 a7
theorem rd_bone_e (hl' : l'.length ≤ 700) {te t0 t3 : Tok} : Reads prog w p loose mean mg mb base σ ρ k (.str (Str.ofString "\\") te :: .str (Str.ofString "e") t0 :: (strValues [] ++ .str (Str.ofString "\n") t3 :: strValues l')) (Str.ofString "e") (k + 1) (strValues l') := by
  intro dp un gd cn cs a ccd cl outer A₀ h₀ L m s Q E news B F X N T hk CH St Rr Lf hpl hpos hdp hun hret
  have hln : (strValues l').length ≤ 700 := by unfold strValues; rw [List.length_map]; exact hl'
  refine tok_back_k B F X N T hk CH St Rr Lf hpl hpos (by omega) rfl plain_e (by intro x hx; cases hx) (by simp) (by decide +kernel) (by decide +kernel) (by decide +kernel) (by decide +kernel) hdp hun ?_
  rw [show (Str.ofString "e" ++ cat []) = Str.ofString "e" from by simp only [cat]; decide +kernel]
  exact fun t' h' tk' news' a1 a2 a3 a4 a5 a6 a7 => hret t' h' tk' news' a1 a2 a3 a4 (by rw [if_pos rfl] at a5; exact a5) a6 a7
end
/-! part PhC -/
theorem signs_append (x y : Str) : signs (x ++ y) = signs x ++ signs y := by
  unfold signs
  show ((x.cps ++ y.cps).toList.map _) = _
  simp
section
variable {prog : Program} {w : World} {p : Program} {loose : List Str} {mean : ExcName → Option Value} {mg mb : Str → Option Value} {base : Heap} {σ : Sta} {ρ : Rm} {k : Int} {l l' : List (Str × Tok)}
theorem line_true_00 (hl' : l'.length ≤ 600) (h : l.map (·.1) = [Str.ofString "a", Str.ofString "d", Str.ofString "d", Str.ofString " ", Str.ofString "s", Str.ofString "u", Str.ofString "b", Str.ofString "\n"]) : ∃ mid : List (Str × Tok), Reads prog w p loose mean mg mb base σ ρ k (strValues (l ++ l')) (wd true) k (strValues mid) ∧ Reads prog w p loose mean mg mb base σ ρ k (strValues mid) (wd (!true)) (k + 1) (strValues l') := by
  obtain ⟨x0, l0, rfl, h0⟩ := map_fst_cons h
  obtain ⟨x1, l1, rfl, h1⟩ := map_fst_cons h0
  obtain ⟨x2, l2, rfl, h2⟩ := map_fst_cons h1
  obtain ⟨x3, l3, rfl, h3⟩ := map_fst_cons h2
  obtain ⟨x4, l4, rfl, h4⟩ := map_fst_cons h3
  obtain ⟨x5, l5, rfl, h5⟩ := map_fst_cons h4
  obtain ⟨x6, l6, rfl, h6⟩ := map_fst_cons h5
  obtain ⟨x7, l7, rfl, h7⟩ := map_fst_cons h6
  cases map_fst_nil h7
  exact ⟨[(Str.ofString "s", x4), (Str.ofString "u", x5), (Str.ofString "b", x6), (Str.ofString "\n", x7)] ++ l', rd_bare_add_sp (l' := [(Str.ofString "s", x4), (Str.ofString "u", x5), (Str.ofString "b", x6), (Str.ofString "\n", x7)] ++ l') (by rw [List.length_append]; simp only [List.length_cons, List.length_nil]; omega), rd_bare_sub_nl (l' := l') (by omega)⟩
theorem line_true_01 (hl' : l'.length ≤ 600) (h : l.map (·.1) = [Str.ofString "a", Str.ofString "d", Str.ofString "d", Str.ofString " ", Str.ofString "\\", Str.ofString "s", Str.ofString "u", Str.ofString "b", Str.ofString "\n"]) : ∃ mid : List (Str × Tok), Reads prog w p loose mean mg mb base σ ρ k (strValues (l ++ l')) (wd true) k (strValues mid) ∧ Reads prog w p loose mean mg mb base σ ρ k (strValues mid) (wd (!true)) (k + 1) (strValues l') := by
  obtain ⟨x0, l0, rfl, h0⟩ := map_fst_cons h
  obtain ⟨x1, l1, rfl, h1⟩ := map_fst_cons h0
  obtain ⟨x2, l2, rfl, h2⟩ := map_fst_cons h1
  obtain ⟨x3, l3, rfl, h3⟩ := map_fst_cons h2
  obtain ⟨x4, l4, rfl, h4⟩ := map_fst_cons h3
  obtain ⟨x5, l5, rfl, h5⟩ := map_fst_cons h4
  obtain ⟨x6, l6, rfl, h6⟩ := map_fst_cons h5
  obtain ⟨x7, l7, rfl, h7⟩ := map_fst_cons h6
  obtain ⟨x8, l8, rfl, h8⟩ := map_fst_cons h7
  cases map_fst_nil h8
  exact ⟨[(Str.ofString "\\", x4), (Str.ofString "s", x5), (Str.ofString "u", x6), (Str.ofString "b", x7), (Str.ofString "\n", x8)] ++ l', rd_bare_add_sp (l' := [(Str.ofString "\\", x4), (Str.ofString "s", x5), (Str.ofString "u", x6), (Str.ofString "b", x7), (Str.ofString "\n", x8)] ++ l') (by rw [List.length_append]; simp only [List.length_cons, List.length_nil]; omega), rd_back_sub_nl (l' := l') (by omega)⟩
theorem line_true_10 (hl' : l'.length ≤ 600) (h : l.map (·.1) = [Str.ofString "\"", Str.ofString "a", Str.ofString "d", Str.ofString "d", Str.ofString "\"", Str.ofString " ", Str.ofString "s", Str.ofString "u", Str.ofString "b", Str.ofString "\n"]) : ∃ mid : List (Str × Tok), Reads prog w p loose mean mg mb base σ ρ k (strValues (l ++ l')) (wd true) k (strValues mid) ∧ Reads prog w p loose mean mg mb base σ ρ k (strValues mid) (wd (!true)) (k + 1) (strValues l') := by
  obtain ⟨x0, l0, rfl, h0⟩ := map_fst_cons h
  obtain ⟨x1, l1, rfl, h1⟩ := map_fst_cons h0
  obtain ⟨x2, l2, rfl, h2⟩ := map_fst_cons h1
  obtain ⟨x3, l3, rfl, h3⟩ := map_fst_cons h2
  obtain ⟨x4, l4, rfl, h4⟩ := map_fst_cons h3
  obtain ⟨x5, l5, rfl, h5⟩ := map_fst_cons h4
  obtain ⟨x6, l6, rfl, h6⟩ := map_fst_cons h5
  obtain ⟨x7, l7, rfl, h7⟩ := map_fst_cons h6
  obtain ⟨x8, l8, rfl, h8⟩ := map_fst_cons h7
  obtain ⟨x9, l9, rfl, h9⟩ := map_fst_cons h8
  cases map_fst_nil h9
  exact ⟨[(Str.ofString " ", x5), (Str.ofString "s", x6), (Str.ofString "u", x7), (Str.ofString "b", x8), (Str.ofString "\n", x9)] ++ l', rd_quote_add (l' := [(Str.ofString " ", x5), (Str.ofString "s", x6), (Str.ofString "u", x7), (Str.ofString "b", x8), (Str.ofString "\n", x9)] ++ l') (by rw [List.length_append]; simp only [List.length_cons, List.length_nil]; omega), rd_wbare_sub_nl (l' := l') (by omega)⟩
theorem line_true_11 (hl' : l'.length ≤ 600) (h : l.map (·.1) = [Str.ofString "\"", Str.ofString "a", Str.ofString "d", Str.ofString "d", Str.ofString "\"", Str.ofString " ", Str.ofString "\\", Str.ofString "s", Str.ofString "u", Str.ofString "b", Str.ofString "\n"]) : ∃ mid : List (Str × Tok), Reads prog w p loose mean mg mb base σ ρ k (strValues (l ++ l')) (wd true) k (strValues mid) ∧ Reads prog w p loose mean mg mb base σ ρ k (strValues mid) (wd (!true)) (k + 1) (strValues l') := by
  obtain ⟨x0, l0, rfl, h0⟩ := map_fst_cons h
  obtain ⟨x1, l1, rfl, h1⟩ := map_fst_cons h0
  obtain ⟨x2, l2, rfl, h2⟩ := map_fst_cons h1
  obtain ⟨x3, l3, rfl, h3⟩ := map_fst_cons h2
  obtain ⟨x4, l4, rfl, h4⟩ := map_fst_cons h3
  obtain ⟨x5, l5, rfl, h5⟩ := map_fst_cons h4
  obtain ⟨x6, l6, rfl, h6⟩ := map_fst_cons h5
  obtain ⟨x7, l7, rfl, h7⟩ := map_fst_cons h6
  obtain ⟨x8, l8, rfl, h8⟩ := map_fst_cons h7
  obtain ⟨x9, l9, rfl, h9⟩ := map_fst_cons h8
  obtain ⟨x10, l10, rfl, h10⟩ := map_fst_cons h9
  cases map_fst_nil h10
  exact ⟨[(Str.ofString " ", x5), (Str.ofString "\\", x6), (Str.ofString "s", x7), (Str.ofString "u", x8), (Str.ofString "b", x9), (Str.ofString "\n", x10)] ++ l', rd_quote_add (l' := [(Str.ofString " ", x5), (Str.ofString "\\", x6), (Str.ofString "s", x7), (Str.ofString "u", x8), (Str.ofString "b", x9), (Str.ofString "\n", x10)] ++ l') (by rw [List.length_append]; simp only [List.length_cons, List.length_nil]; omega), rd_wback_sub_nl (l' := l') (by omega)⟩
theorem line_true_20 (hl' : l'.length ≤ 600) (h : l.map (·.1) = [Str.ofString "\\", Str.ofString "a", Str.ofString "d", Str.ofString "d", Str.ofString " ", Str.ofString "s", Str.ofString "u", Str.ofString "b", Str.ofString "\n"]) : ∃ mid : List (Str × Tok), Reads prog w p loose mean mg mb base σ ρ k (strValues (l ++ l')) (wd true) k (strValues mid) ∧ Reads prog w p loose mean mg mb base σ ρ k (strValues mid) (wd (!true)) (k + 1) (strValues l') := by
  obtain ⟨x0, l0, rfl, h0⟩ := map_fst_cons h
  obtain ⟨x1, l1, rfl, h1⟩ := map_fst_cons h0
  obtain ⟨x2, l2, rfl, h2⟩ := map_fst_cons h1
  obtain ⟨x3, l3, rfl, h3⟩ := map_fst_cons h2
  obtain ⟨x4, l4, rfl, h4⟩ := map_fst_cons h3
  obtain ⟨x5, l5, rfl, h5⟩ := map_fst_cons h4
  obtain ⟨x6, l6, rfl, h6⟩ := map_fst_cons h5
  obtain ⟨x7, l7, rfl, h7⟩ := map_fst_cons h6
  obtain ⟨x8, l8, rfl, h8⟩ := map_fst_cons h7
  cases map_fst_nil h8
  exact ⟨[(Str.ofString "s", x5), (Str.ofString "u", x6), (Str.ofString "b", x7), (Str.ofString "\n", x8)] ++ l', rd_back_add_sp (l' := [(Str.ofString "s", x5), (Str.ofString "u", x6), (Str.ofString "b", x7), (Str.ofString "\n", x8)] ++ l') (by rw [List.length_append]; simp only [List.length_cons, List.length_nil]; omega), rd_bare_sub_nl (l' := l') (by omega)⟩
theorem line_true_21 (hl' : l'.length ≤ 600) (h : l.map (·.1) = [Str.ofString "\\", Str.ofString "a", Str.ofString "d", Str.ofString "d", Str.ofString " ", Str.ofString "\\", Str.ofString "s", Str.ofString "u", Str.ofString "b", Str.ofString "\n"]) : ∃ mid : List (Str × Tok), Reads prog w p loose mean mg mb base σ ρ k (strValues (l ++ l')) (wd true) k (strValues mid) ∧ Reads prog w p loose mean mg mb base σ ρ k (strValues mid) (wd (!true)) (k + 1) (strValues l') := by
  obtain ⟨x0, l0, rfl, h0⟩ := map_fst_cons h
  obtain ⟨x1, l1, rfl, h1⟩ := map_fst_cons h0
  obtain ⟨x2, l2, rfl, h2⟩ := map_fst_cons h1
  obtain ⟨x3, l3, rfl, h3⟩ := map_fst_cons h2
  obtain ⟨x4, l4, rfl, h4⟩ := map_fst_cons h3
  obtain ⟨x5, l5, rfl, h5⟩ := map_fst_cons h4
  obtain ⟨x6, l6, rfl, h6⟩ := map_fst_cons h5
  obtain ⟨x7, l7, rfl, h7⟩ := map_fst_cons h6
  obtain ⟨x8, l8, rfl, h8⟩ := map_fst_cons h7
  obtain ⟨x9, l9, rfl, h9⟩ := map_fst_cons h8
  cases map_fst_nil h9
  exact ⟨[(Str.ofString "\\", x5), (Str.ofString "s", x6), (Str.ofString "u", x7), (Str.ofString "b", x8), (Str.ofString "\n", x9)] ++ l', rd_back_add_sp (l' := [(Str.ofString "\\", x5), (Str.ofString "s", x6), (Str.ofString "u", x7), (Str.ofString "b", x8), (Str.ofString "\n", x9)] ++ l') (by rw [List.length_append]; simp only [List.length_cons, List.length_nil]; omega), rd_back_sub_nl (l' := l') (by omega)⟩
theorem line_false_00 (hl' : l'.length ≤ 600) (h : l.map (·.1) = [Str.ofString "s", Str.ofString "u", Str.ofString "b", Str.ofString " ", Str.ofString "a", Str.ofString "d", Str.ofString "d", Str.ofString "\n"]) : ∃ mid : List (Str × Tok), Reads prog w p loose mean mg mb base σ ρ k (strValues (l ++ l')) (wd false) k (strValues mid) ∧ Reads prog w p loose mean mg mb base σ ρ k (strValues mid) (wd (!false)) (k + 1) (strValues l') := by
  obtain ⟨x0, l0, rfl, h0⟩ := map_fst_cons h
  obtain ⟨x1, l1, rfl, h1⟩ := map_fst_cons h0
  obtain ⟨x2, l2, rfl, h2⟩ := map_fst_cons h1
  obtain ⟨x3, l3, rfl, h3⟩ := map_fst_cons h2
  obtain ⟨x4, l4, rfl, h4⟩ := map_fst_cons h3
  obtain ⟨x5, l5, rfl, h5⟩ := map_fst_cons h4
  obtain ⟨x6, l6, rfl, h6⟩ := map_fst_cons h5
  obtain ⟨x7, l7, rfl, h7⟩ := map_fst_cons h6
  cases map_fst_nil h7
  exact ⟨[(Str.ofString "a", x4), (Str.ofString "d", x5), (Str.ofString "d", x6), (Str.ofString "\n", x7)] ++ l', rd_bare_sub_sp (l' := [(Str.ofString "a", x4), (Str.ofString "d", x5), (Str.ofString "d", x6), (Str.ofString "\n", x7)] ++ l') (by rw [List.length_append]; simp only [List.length_cons, List.length_nil]; omega), rd_bare_add_nl (l' := l') (by omega)⟩
theorem line_false_01 (hl' : l'.length ≤ 600) (h : l.map (·.1) = [Str.ofString "s", Str.ofString "u", Str.ofString "b", Str.ofString " ", Str.ofString "\\", Str.ofString "a", Str.ofString "d", Str.ofString "d", Str.ofString "\n"]) : ∃ mid : List (Str × Tok), Reads prog w p loose mean mg mb base σ ρ k (strValues (l ++ l')) (wd false) k (strValues mid) ∧ Reads prog w p loose mean mg mb base σ ρ k (strValues mid) (wd (!false)) (k + 1) (strValues l') := by
  obtain ⟨x0, l0, rfl, h0⟩ := map_fst_cons h
  obtain ⟨x1, l1, rfl, h1⟩ := map_fst_cons h0
  obtain ⟨x2, l2, rfl, h2⟩ := map_fst_cons h1
  obtain ⟨x3, l3, rfl, h3⟩ := map_fst_cons h2
  obtain ⟨x4, l4, rfl, h4⟩ := map_fst_cons h3
  obtain ⟨x5, l5, rfl, h5⟩ := map_fst_cons h4
  obtain ⟨x6, l6, rfl, h6⟩ := map_fst_cons h5
  obtain ⟨x7, l7, rfl, h7⟩ := map_fst_cons h6
  obtain ⟨x8, l8, rfl, h8⟩ := map_fst_cons h7
  cases map_fst_nil h8
  exact ⟨[(Str.ofString "\\", x4), (Str.ofString "a", x5), (Str.ofString "d", x6), (Str.ofString "d", x7), (Str.ofString "\n", x8)] ++ l', rd_bare_sub_sp (l' := [(Str.ofString "\\", x4), (Str.ofString "a", x5), (Str.ofString "d", x6), (Str.ofString "d", x7), (Str.ofString "\n", x8)] ++ l') (by rw [List.length_append]; simp only [List.length_cons, List.length_nil]; omega), rd_back_add_nl (l' := l') (by omega)⟩
theorem line_false_10 (hl' : l'.length ≤ 600) (h : l.map (·.1) = [Str.ofString "\"", Str.ofString "s", Str.ofString "u", Str.ofString "b", Str.ofString "\"", Str.ofString " ", Str.ofString "a", Str.ofString "d", Str.ofString "d", Str.ofString "\n"]) : ∃ mid : List (Str × Tok), Reads prog w p loose mean mg mb base σ ρ k (strValues (l ++ l')) (wd false) k (strValues mid) ∧ Reads prog w p loose mean mg mb base σ ρ k (strValues mid) (wd (!false)) (k + 1) (strValues l') := by
  obtain ⟨x0, l0, rfl, h0⟩ := map_fst_cons h
  obtain ⟨x1, l1, rfl, h1⟩ := map_fst_cons h0
  obtain ⟨x2, l2, rfl, h2⟩ := map_fst_cons h1
  obtain ⟨x3, l3, rfl, h3⟩ := map_fst_cons h2
  obtain ⟨x4, l4, rfl, h4⟩ := map_fst_cons h3
  obtain ⟨x5, l5, rfl, h5⟩ := map_fst_cons h4
  obtain ⟨x6, l6, rfl, h6⟩ := map_fst_cons h5
  obtain ⟨x7, l7, rfl, h7⟩ := map_fst_cons h6
  obtain ⟨x8, l8, rfl, h8⟩ := map_fst_cons h7
  obtain ⟨x9, l9, rfl, h9⟩ := map_fst_cons h8
  cases map_fst_nil h9
  exact ⟨[(Str.ofString " ", x5), (Str.ofString "a", x6), (Str.ofString "d", x7), (Str.ofString "d", x8), (Str.ofString "\n", x9)] ++ l', rd_quote_sub (l' := [(Str.ofString " ", x5), (Str.ofString "a", x6), (Str.ofString "d", x7), (Str.ofString "d", x8), (Str.ofString "\n", x9)] ++ l') (by rw [List.length_append]; simp only [List.length_cons, List.length_nil]; omega), rd_wbare_add_nl (l' := l') (by omega)⟩
theorem line_false_11 (hl' : l'.length ≤ 600) (h : l.map (·.1) = [Str.ofString "\"", Str.ofString "s", Str.ofString "u", Str.ofString "b", Str.ofString "\"", Str.ofString " ", Str.ofString "\\", Str.ofString "a", Str.ofString "d", Str.ofString "d", Str.ofString "\n"]) : ∃ mid : List (Str × Tok), Reads prog w p loose mean mg mb base σ ρ k (strValues (l ++ l')) (wd false) k (strValues mid) ∧ Reads prog w p loose mean mg mb base σ ρ k (strValues mid) (wd (!false)) (k + 1) (strValues l') := by
  obtain ⟨x0, l0, rfl, h0⟩ := map_fst_cons h
  obtain ⟨x1, l1, rfl, h1⟩ := map_fst_cons h0
  obtain ⟨x2, l2, rfl, h2⟩ := map_fst_cons h1
  obtain ⟨x3, l3, rfl, h3⟩ := map_fst_cons h2
  obtain ⟨x4, l4, rfl, h4⟩ := map_fst_cons h3
  obtain ⟨x5, l5, rfl, h5⟩ := map_fst_cons h4
  obtain ⟨x6, l6, rfl, h6⟩ := map_fst_cons h5
  obtain ⟨x7, l7, rfl, h7⟩ := map_fst_cons h6
  obtain ⟨x8, l8, rfl, h8⟩ := map_fst_cons h7
  obtain ⟨x9, l9, rfl, h9⟩ := map_fst_cons h8
  obtain ⟨x10, l10, rfl, h10⟩ := map_fst_cons h9
  cases map_fst_nil h10
  exact ⟨[(Str.ofString " ", x5), (Str.ofString "\\", x6), (Str.ofString "a", x7), (Str.ofString "d", x8), (Str.ofString "d", x9), (Str.ofString "\n", x10)] ++ l', rd_quote_sub (l' := [(Str.ofString " ", x5), (Str.ofString "\\", x6), (Str.ofString "a", x7), (Str.ofString "d", x8), (Str.ofString "d", x9), (Str.ofString "\n", x10)] ++ l') (by rw [List.length_append]; simp only [List.length_cons, List.length_nil]; omega), rd_wback_add_nl (l' := l') (by omega)⟩
theorem line_false_20 (hl' : l'.length ≤ 600) (h : l.map (·.1) = [Str.ofString "\\", Str.ofString "s", Str.ofString "u", Str.ofString "b", Str.ofString " ", Str.ofString "a", Str.ofString "d", Str.ofString "d", Str.ofString "\n"]) : ∃ mid : List (Str × Tok), Reads prog w p loose mean mg mb base σ ρ k (strValues (l ++ l')) (wd false) k (strValues mid) ∧ Reads prog w p loose mean mg mb base σ ρ k (strValues mid) (wd (!false)) (k + 1) (strValues l') := by
  obtain ⟨x0, l0, rfl, h0⟩ := map_fst_cons h
  obtain ⟨x1, l1, rfl, h1⟩ := map_fst_cons h0
  obtain ⟨x2, l2, rfl, h2⟩ := map_fst_cons h1
  obtain ⟨x3, l3, rfl, h3⟩ := map_fst_cons h2
  obtain ⟨x4, l4, rfl, h4⟩ := map_fst_cons h3
  obtain ⟨x5, l5, rfl, h5⟩ := map_fst_cons h4
  obtain ⟨x6, l6, rfl, h6⟩ := map_fst_cons h5
  obtain ⟨x7, l7, rfl, h7⟩ := map_fst_cons h6
  obtain ⟨x8, l8, rfl, h8⟩ := map_fst_cons h7
  cases map_fst_nil h8
  exact ⟨[(Str.ofString "a", x5), (Str.ofString "d", x6), (Str.ofString "d", x7), (Str.ofString "\n", x8)] ++ l', rd_back_sub_sp (l' := [(Str.ofString "a", x5), (Str.ofString "d", x6), (Str.ofString "d", x7), (Str.ofString "\n", x8)] ++ l') (by rw [List.length_append]; simp only [List.length_cons, List.length_nil]; omega), rd_bare_add_nl (l' := l') (by omega)⟩
theorem line_false_21 (hl' : l'.length ≤ 600) (h : l.map (·.1) = [Str.ofString "\\", Str.ofString "s", Str.ofString "u", Str.ofString "b", Str.ofString " ", Str.ofString "\\", Str.ofString "a", Str.ofString "d", Str.ofString "d", Str.ofString "\n"]) : ∃ mid : List (Str × Tok), Reads prog w p loose mean mg mb base σ ρ k (strValues (l ++ l')) (wd false) k (strValues mid) ∧ Reads prog w p loose mean mg mb base σ ρ k (strValues mid) (wd (!false)) (k + 1) (strValues l') := by
  obtain ⟨x0, l0, rfl, h0⟩ := map_fst_cons h
  obtain ⟨x1, l1, rfl, h1⟩ := map_fst_cons h0
  obtain ⟨x2, l2, rfl, h2⟩ := map_fst_cons h1
  obtain ⟨x3, l3, rfl, h3⟩ := map_fst_cons h2
  obtain ⟨x4, l4, rfl, h4⟩ := map_fst_cons h3
  obtain ⟨x5, l5, rfl, h5⟩ := map_fst_cons h4
  obtain ⟨x6, l6, rfl, h6⟩ := map_fst_cons h5
  obtain ⟨x7, l7, rfl, h7⟩ := map_fst_cons h6
  obtain ⟨x8, l8, rfl, h8⟩ := map_fst_cons h7
  obtain ⟨x9, l9, rfl, h9⟩ := map_fst_cons h8
  cases map_fst_nil h9
  exact ⟨[(Str.ofString "\\", x5), (Str.ofString "a", x6), (Str.ofString "d", x7), (Str.ofString "d", x8), (Str.ofString "\n", x9)] ++ l', rd_back_sub_sp (l' := [(Str.ofString "\\", x5), (Str.ofString "a", x6), (Str.ofString "d", x7), (Str.ofString "d", x8), (Str.ofString "\n", x9)] ++ l') (by rw [List.length_append]; simp only [List.length_cons, List.length_nil]; omega), rd_back_add_nl (l' := l') (by omega)⟩
theorem line_reads {b : Bool} {kind : Int} (hl' : l'.length ≤ 600) (h : l.map (·.1) = signs (spellS (wd b) (wd (!b)) kind)) : ∃ mid : List (Str × Tok), Reads prog w p loose mean mg mb base σ ρ k (strValues (l ++ l')) (wd b) k (strValues mid) ∧ Reads prog w p loose mean mg mb base σ ρ k (strValues mid) (wd (!b)) (k + 1) (strValues l') := by
  have m3 := Int.fmod_lt_of_pos kind (show (0 : Int) < 3 by decide)
  have n3 := Int.fmod_nonneg_of_pos kind (show (0 : Int) < 3 by decide)
  have m2 := Int.fmod_lt_of_pos kind (show (0 : Int) < 2 by decide)
  have n2 := Int.fmod_nonneg_of_pos kind (show (0 : Int) < 2 by decide)
  have h3 : Int.fmod kind 3 = 0 ∨ Int.fmod kind 3 = 1 ∨ Int.fmod kind 3 = 2 := by omega
  have h2 : Int.fmod kind 2 = 0 ∨ Int.fmod kind 2 = 1 := by omega
  unfold spellS at h
  cases b with
  | true =>
    rcases h3 with e3 | e3 | e3 <;> rcases h2 with e2 | e2 <;> rw [e3, e2] at h
    · exact line_true_00 hl' (h.trans (by decide +kernel))
    · exact line_true_01 hl' (h.trans (by decide +kernel))
    · exact line_true_10 hl' (h.trans (by decide +kernel))
    · exact line_true_11 hl' (h.trans (by decide +kernel))
    · exact line_true_20 hl' (h.trans (by decide +kernel))
    · exact line_true_21 hl' (h.trans (by decide +kernel))
  | false =>
    rcases h3 with e3 | e3 | e3 <;> rcases h2 with e2 | e2 <;> rw [e3, e2] at h
    · exact line_false_00 hl' (h.trans (by decide +kernel))
    · exact line_false_01 hl' (h.trans (by decide +kernel))
    · exact line_false_10 hl' (h.trans (by decide +kernel))
    · exact line_false_11 hl' (h.trans (by decide +kernel))
    · exact line_false_20 hl' (h.trans (by decide +kernel))
    · exact line_false_21 hl' (h.trans (by decide +kernel))
end
/-! part PhD -/
section
variable {prog : Program} {w : World} {p : Program} {loose : List Str} {mean : ExcName → Option Value} {mg mb : Str → Option Value} {base : Heap} {σ : Sta} {ρ : Rm} {k : Int} {l l' : List (Str × Tok)}
theorem gate_reads {x : Int} (hx : 1 ≤ x ∧ x ≤ 5) (hl' : l'.length ≤ 600) (h : l.map (·.1) = signs (gateS x)) : Reads prog w p loose mean mg mb base σ ρ k (strValues (l ++ l')) (letterS x) (k + 1) (strValues l') := by
  have hc : x = 1 ∨ x = 2 ∨ x = 3 ∨ x = 4 ∨ x = 5 := by omega
  rcases hc with rfl | rfl | rfl | rfl | rfl
  · have h := h.trans (show signs (gateS 1) = [Str.ofString "\\", Str.ofString "a", Str.ofString "\n"] from by decide +kernel)
    obtain ⟨x0, l0, rfl, h0⟩ := map_fst_cons h
    obtain ⟨x1, l1, rfl, h1⟩ := map_fst_cons h0
    obtain ⟨x2, l2, rfl, h2⟩ := map_fst_cons h1
    cases map_fst_nil h2
    exact rd_bone_a (l' := l') (by omega)
  · have h := h.trans (show signs (gateS 2) = [Str.ofString "b", Str.ofString "\n"] from by decide +kernel)
    obtain ⟨x0, l0, rfl, h0⟩ := map_fst_cons h
    obtain ⟨x1, l1, rfl, h1⟩ := map_fst_cons h0
    cases map_fst_nil h1
    exact rd_one_b (l' := l') (by omega)
  · have h := h.trans (show signs (gateS 3) = [Str.ofString "\\", Str.ofString "c", Str.ofString "\n"] from by decide +kernel)
    obtain ⟨x0, l0, rfl, h0⟩ := map_fst_cons h
    obtain ⟨x1, l1, rfl, h1⟩ := map_fst_cons h0
    obtain ⟨x2, l2, rfl, h2⟩ := map_fst_cons h1
    cases map_fst_nil h2
    exact rd_bone_c (l' := l') (by omega)
  · have h := h.trans (show signs (gateS 4) = [Str.ofString "d", Str.ofString "\n"] from by decide +kernel)
    obtain ⟨x0, l0, rfl, h0⟩ := map_fst_cons h
    obtain ⟨x1, l1, rfl, h1⟩ := map_fst_cons h0
    cases map_fst_nil h1
    exact rd_one_d (l' := l') (by omega)
  · have h := h.trans (show signs (gateS 5) = [Str.ofString "\\", Str.ofString "e", Str.ofString "\n"] from by decide +kernel)
    obtain ⟨x0, l0, rfl, h0⟩ := map_fst_cons h
    obtain ⟨x1, l1, rfl, h1⟩ := map_fst_cons h0
    obtain ⟨x2, l2, rfl, h2⟩ := map_fst_cons h1
    cases map_fst_nil h2
    exact rd_bone_e (l' := l') (by omega)
end
/-! part PhE -/
def allBs : Nat → List (List Bool)
  | 0 => [[]]
  | n + 1 => (allBs n).flatMap fun bs => [true :: bs, false :: bs]
theorem mem_allBs : ∀ (bs : List Bool), bs ∈ allBs bs.length
  | [] => by simp [allBs]
  | b :: bs => by
    have h := mem_allBs bs
    rw [List.length_cons, allBs, List.mem_flatMap]
    exact ⟨bs, h, by cases b <;> simp⟩
def hgt (pl : Int) (bs : List Bool) : Int := pl * pl + 2 * (sel bs true 1 bs.length).sum
def lawOk (bs : List Bool) (st : Nat) : Bool :=
  let a := toldP bs (st : Int)
  decide (walkF 20 bs (st : Int) 0 = (a.2, a.1, hgt a.1 a.2 - hgt (st : Int) bs)) && decide (a.2.length = bs.length) && decide (a.2.count true = (bs.count true + st) % (bs.length + 1)) && decide (0 ≤ a.1) && decide (a.1 ≤ 6)
theorem law_ok : ([2, 3, 4, 5].all fun n => (allBs n).all fun bs => (List.range n).all fun i => lawOk bs (i + 1)) = true := by decide +kernel
theorem law_pure {bs : List Bool} {st : Nat} (h2 : 2 ≤ bs.length) (h5 : bs.length ≤ 5) (h1 : 1 ≤ st) (hs : st ≤ bs.length) : lawOk bs st = true := by
  have h := law_ok
  rw [List.all_eq_true] at h
  have hn : bs.length ∈ [2, 3, 4, 5] := by
    have : bs.length = 2 ∨ bs.length = 3 ∨ bs.length = 4 ∨ bs.length = 5 := by omega
    rcases this with e | e | e | e <;> rw [e] <;> decide
  have h := h _ hn
  rw [List.all_eq_true] at h
  have h := h bs (mem_allBs bs)
  rw [List.all_eq_true] at h
  have h := h (st - 1) (List.mem_range.mpr (by omega))
  rw [show st - 1 + 1 = st by omega] at h
  exact h
/-! part PhF -/
def lineD (b : Bool) : PyData := .list [.str (wd b), .str (wd (!b))]
def linesD (bs : List Bool) : PyData := .list (bs.map lineD)
theorem lines_ok : ([2, 3, 4, 5].all fun n => (allBs n).all fun bs => PySem.SeqAt.shaped (linesD bs) && PyData.eqv (linesD bs) (linesD bs)) = true := by decide +kernel
theorem lines_shaped {bs : List Bool} (h2 : 2 ≤ bs.length) (h5 : bs.length ≤ 5) : PySem.SeqAt.shaped (linesD bs) = true ∧ PyData.eqv (linesD bs) (linesD bs) = true := by
  have h := lines_ok
  rw [List.all_eq_true] at h
  have hn : bs.length ∈ [2, 3, 4, 5] := by
    have : bs.length = 2 ∨ bs.length = 3 ∨ bs.length = 4 ∨ bs.length = 5 := by omega
    rcases this with e | e | e | e <;> rw [e] <;> decide
  have h := h _ hn
  rw [List.all_eq_true] at h
  exact Bool.and_eq_true_iff.mp (h bs (mem_allBs bs))
theorem linesReadsAll {h₀ h : Heap} {L : Addr} {news : List (Addr × Obj)} (N : News h₀ L h news) : ∀ {ys : List Value} {bs : List Bool}, LinesIn ys bs news → ∃ as, ReadsAll h ys (bs.map lineD) as
  | [], [], _ => ⟨[], .nil⟩
  | [], _ :: _, x => by have := x.len; simp at this
  | _ :: _, [], x => by have := x.len; simp at this
  | y :: ys, b :: bs, x => by
    obtain ⟨l, n, t, t', rfl, hm⟩ := x.all 0 y b rfl rfl
    obtain ⟨as, r⟩ := linesReadsAll N (ys := ys) (bs := bs) ⟨by have := x.len; simpa using this, fun i y b hy hb => x.all (i + 1) y b (by simpa using hy) (by simpa using hb)⟩
    exact ⟨_, .cons (reads_list_at (N _ hm).1 rfl rfl (readsAll_cons_val (.str _ _) (readsAll_cons_val (.str _ _) .nil))) r⟩
section
variable {prog : Program} {w : World} {A : Around} {E : Value → Shared → Prop} {s : Shared} {h₀ : Heap} {L D D' : Addr} {news : List (Addr × Obj)} {ys ys' : List Value} {bs : List Bool} {n n' : Nat} {Q : Value → Shared → Prop}
theorem lines_ne (N : News h₀ L s.heap news) (h1 : (D, listOf ys.toArray n) ∈ news) (h2 : (D', listOf ys'.toArray n') ∈ news) (l1 : LinesIn ys bs news) (l2 : LinesIn ys' bs news) (h2' : 2 ≤ bs.length) (h5 : bs.length ≤ 5) (hu : A.units + 64 < cLine) (h : Q (.bool false) s) :
    wpAny (model prog w) A (compareOp .NotEq (.ref D) (.ref D')) Q E s := by
  obtain ⟨as, r⟩ := linesReadsAll N l1
  obtain ⟨as', r'⟩ := linesReadsAll N l2
  obtain ⟨e1, e2⟩ := lines_shaped h2' h5
  refine ne_dataH (da := linesD bs) (db := linesD bs) (reads_list_at (N _ h1).1 rfl rfl (by simpa using r)) (reads_list_at (N _ h2).1 rfl rfl (by simpa using r')) e1 e1 hu ?_
  rw [e2]
  exact h
end
/-! part PhG -/
theorem signs_flat (ts : List Str) : signs (Txt.join (Str.ofString "") ts) = ts.flatMap signs := by
  have h := join_cps ts
  unfold signs
  rw [h, List.map_flatMap]
def lineAt (q : Int) (bs : List Bool) (i : Nat) : Str := spellS (wd (bs.getD i false)) (wd (!bs.getD i false)) (q + (i : Int))
theorem linesS_eq (q : Int) (bs : List Bool) : ∀ n, linesS q bs n = (List.range n).map (lineAt q bs)
  | 0 => rfl
  | n + 1 => by rw [linesS, linesS_eq q bs n, List.range_succ, List.map_append]; rfl
/-- the facts of the addresses that hold once and for all -/
structure Stat (σ : Sta) (rs : List Rm) (old : List (Addr × Obj)) : Prop where
  dst : Dst rs
  lf : ∀ ρ ∈ rs, ρ.pb ≠ σ.lf
  off : ∀ p ∈ old, p.1 ≠ σ.lf ∧ ∀ ρ ∈ rs, p.1 ≠ ρ.d ∧ p.1 ≠ ρ.pb
theorem RmIn.apart {P : Params} {S : Addr} {σ : Sta} {ρ ρ' : Rm} {k k' : Int} {ws ws' : List Value} {chars : List Value} {h₀ h : Heap} {L : Addr} {news : List (Addr × Obj)} (N : News h₀ L h news) (h1 : RmIn P S ρ k ws news) (h2 : RmIn P S ρ' k' ws' news) (hL : LeftIn σ.lf chars news) (hlf : ρ'.pb ≠ σ.lf) (hd : ρ'.pb ≠ ρ.pb ∧ ρ'.d ≠ ρ.d) :
    ρ'.r ∉ [σ.lf, ρ.d, ρ.pb] ∧ ρ'.d ∉ [σ.lf, ρ.d, ρ.pb] ∧ ρ'.pb ∉ [σ.lf, ρ.d, ρ.pb] := by
  obtain ⟨nl, hl⟩ := hL
  obtain ⟨tl, hd1⟩ := h1.hd
  obtain ⟨np, hp1⟩ := h1.hpb
  obtain ⟨tl', hd2⟩ := h2.hd
  obtain ⟨np', hp2⟩ := h2.hpb
  have a1 := apart' N h2.hr hl (neData rfl rfl (by intro h; cases h))
  have a2 := apart' N h2.hr hd1 (neData rfl rfl (by intro h; cases h))
  have a3 := apart' N h2.hr hp1 (neData rfl rfl (by intro h; cases h))
  have b1 := apart' N hd2 hl (neData rfl rfl (by intro h; cases h))
  have b3 := apart' N hd2 hp1 (neData rfl rfl (by intro h; cases h))
  have c2 := apart' N hp2 hd1 (neData rfl rfl (by intro h; cases h))
  refine ⟨fun q => ?_, fun q => ?_, fun q => ?_⟩
  · rcases List.mem_cons.mp q with q | q
    · exact a1 q
    rcases List.mem_cons.mp q with q | q
    · exact a2 q
    · exact a3 (List.mem_singleton.mp q)
  · rcases List.mem_cons.mp q with q | q
    · exact b1 q
    rcases List.mem_cons.mp q with q | q
    · exact hd.2 q
    · exact b3 (List.mem_singleton.mp q)
  · rcases List.mem_cons.mp q with q | q
    · exact hlf q
    rcases List.mem_cons.mp q with q | q
    · exact c2 q
    · exact hd.1 (List.mem_singleton.mp q)
theorem strValues_ne {l : List (Str × Tok)} (hl : ∀ x ∈ l, x.1.length = 1) {b : Bool} {t : Tok} {v : Value} {n n' : Nat} : listOf (strValues l).toArray n ≠ listOf #[.str (wd b) t, v] n' := fun e => by
  have e1 : Data.seq (strValues l).toArray n = Data.seq #[.str (wd b) t, v] n' := congrArg Obj.data e
  injection e1 with e2 _
  have e3 : strValues l = [.str (wd b) t, v] := by simpa using congrArg Array.toList e2
  cases l with
  | nil => simp [strValues] at e3
  | cons x l =>
    obtain ⟨a, u⟩ := x
    have h1 := hl _ (.head _)
    simp only [strValues, List.map_cons] at e3
    injection e3 with e4 _
    injection e4 with e5 _
    dsimp only at h1
    rw [e5] at h1
    cases b <;> exact absurd h1 (by decide)
/-- the lists of a line stay -/
theorem LinesIn.keep {ys : List Value} {bs : List Bool} {P : Params} {S : Addr} {σ : Sta} {ρ : Rm} {k : Int} {l : List (Str × Tok)} {h₀ h : Heap} {L : Addr} {news news' : List (Addr × Obj)} (hY : LinesIn ys bs news) (N : News h₀ L h news) (h1 : RmIn P S ρ k [] news) (hL : LeftIn σ.lf (strValues l) news) (hl : ∀ x ∈ l, x.1.length = 1) (hk : Keep [σ.lf, ρ.d, ρ.pb] news news') : LinesIn ys bs news' :=
  ⟨hY.len, fun i y b hy hb => by
    obtain ⟨a, n, t, t', e, hm⟩ := hY.all i y b hy hb
    obtain ⟨nl, hl'⟩ := hL
    obtain ⟨tl, hd1⟩ := h1.hd
    obtain ⟨np, hp1⟩ := h1.hpb
    have a1 := apart' N hm hl' (Ne.symm (strValues_ne hl))
    have a2 := apart' N hm hd1 (neData rfl rfl (by intro h; cases h))
    have a3 := apart' N hm hp1 (neData rfl rfl (by intro h; cases h))
    exact ⟨a, n, t, t', e, hk _ hm fun q => by
      rcases List.mem_cons.mp q with q | q
      · exact a1 q
      rcases List.mem_cons.mp q with q | q
      · exact a2 q
      · exact a3 (List.mem_singleton.mp q)⟩⟩
/-! part PhH -/
/-- the ledger without the named addresses -/
def offs (as : List Addr) (news : List (Addr × Obj)) : List (Addr × Obj) := news.filter fun q => !decide (q.1 ∈ as)
theorem offs_ne {as : List Addr} {news : List (Addr × Obj)} : ∀ q ∈ offs as news, q.1 ∉ as := fun q hq => by
  have := (List.mem_filter.mp hq).2
  simpa using this
theorem mem_offs {as : List Addr} {news : List (Addr × Obj)} {q : Addr × Obj} (h : q ∈ news) (hne : q.1 ∉ as) : q ∈ offs as news := List.mem_filter.mpr ⟨h, by simpa using hne⟩
theorem offs_sub {as : List Addr} {news : List (Addr × Obj)} : ∀ q ∈ offs as news, q ∈ news := fun q hq => (List.mem_filter.mp hq).1
theorem StaIn.offs {P : Params} {σ : Sta} {as : List Addr} {nw news : List (Addr × Obj)} (h0 : StaIn P σ nw) (h : StaIn P σ news) (ho : ∀ p ∈ nw, p.1 ∉ as) : StaIn P σ (offs as news) :=
  ⟨mem_offs h.hf (ho _ h0.hf), mem_offs h.hcod (ho _ h0.hcod), mem_offs h.hcell (ho _ h0.hcell), mem_offs h.hS (ho _ h0.hS), mem_offs h.hdS (ho _ h0.hdS), h.oc, h.vs, h.ol⟩
theorem RmIn.offs {P : Params} {S : Addr} {ρ : Rm} {k k' : Int} {ws ws' : List Value} {as : List Addr} {nw news : List (Addr × Obj)} (h0 : RmIn P S ρ k ws nw) (h : RmIn P S ρ k' ws' news) (ho : ∀ p ∈ nw, p.1 ∉ as) : RmIn P S ρ k' ws' (offs as news) := by
  obtain ⟨_, e1⟩ := h0.hd
  obtain ⟨_, e2⟩ := h0.hpb
  obtain ⟨tl, f1⟩ := h.hd
  obtain ⟨np, f2⟩ := h.hpb
  have z1 := ho _ e1
  have z2 := ho _ e2
  exact ⟨mem_offs h.hr (ho _ h0.hr), ⟨tl, mem_offs f1 z1⟩, ⟨np, mem_offs f2 z2⟩⟩
theorem LeftIn.offs {lf : Addr} {chars chars' : List Value} {as : List Addr} {nw news : List (Addr × Obj)} (h0 : LeftIn lf chars nw) (h : LeftIn lf chars' news) (ho : ∀ p ∈ nw, p.1 ∉ as) : LeftIn lf chars' (offs as news) := by
  obtain ⟨_, e⟩ := h0
  obtain ⟨n, f⟩ := h
  have z := ho _ e
  exact ⟨n, mem_offs f z⟩
theorem off3_not {I C D : Addr} {nw : List (Addr × Obj)} (h : LCg.Off3 I C D nw) : ∀ p ∈ nw, p.1 ∉ [I, C, D] := fun p hp q => by
  obtain ⟨h1, h2, h3⟩ := h.mem p hp
  rcases List.mem_cons.mp q with q | q
  · exact h1 q
  rcases List.mem_cons.mp q with q | q
  · exact h2 q
  · exact h3 (List.mem_singleton.mp q)
theorem offs_off3 {I C D : Addr} {news : List (Addr × Obj)} : LCg.Off3 I C D (offs [I, C, D] news) := LCg.Off3.of fun p hp => by
  have h := offs_ne p hp
  exact ⟨fun e => h (e ▸ .head _), fun e => h (e ▸ .tail _ (.head _)), fun e => h (e ▸ .tail _ (.tail _ (.head _)))⟩
/-- the ledger of a comprehension's turn: what is kept of the three heads -/
theorem newsOff3 {h₀ h : Heap} {L I C D : Addr} {oI oC oD : Obj} {ds : List Addr} {nw news : List (Addr × Obj)} (N : News h₀ L h news) (K : Keep ds ((I, oI) :: (C, oC) :: (D, oD) :: nw) news) (hI : I ∉ ds) (hC : C ∉ ds) (hD : D ∉ ds) :
    News h₀ L h ((I, oI) :: (C, oC) :: (D, oD) :: offs [I, C, D] news) := fun p hp => by
  rcases List.mem_cons.mp hp with rfl | hp
  · exact N _ (K _ (.head _) hI)
  rcases List.mem_cons.mp hp with rfl | hp
  · exact N _ (K _ (.tail _ (.head _)) hC)
  rcases List.mem_cons.mp hp with rfl | hp
  · exact N _ (K _ (.tail _ (.tail _ (.head _))) hD)
  · exact N _ (offs_sub p hp)
theorem keepOff3 {I C D : Addr} {oI oC oD : Obj} {ds : List Addr} {nw news : List (Addr × Obj)} (K : Keep ds ((I, oI) :: (C, oC) :: (D, oD) :: nw) news) (ho : LCg.Off3 I C D nw) : Keep ds nw (offs [I, C, D] news) := fun p hp hn =>
  mem_offs (K p (.tail _ (.tail _ (.tail _ hp))) hn) (off3_not ho p hp)
theorem three {a b c x : Addr} (h1 : x ≠ a) (h2 : x ≠ b) (h3 : x ≠ c) : x ∉ [a, b, c] := fun q => by
  rcases List.mem_cons.mp q with q | q
  · exact h1 q
  rcases List.mem_cons.mp q with q | q
  · exact h2 q
  · exact h3 (List.mem_singleton.mp q)
/-- the signs that are left, from line i on -/
def leftS (q : Int) (bs : List Bool) (n i : Nat) (rest : List Str) : List Str := ((List.range n).drop i).flatMap (fun j => signs (lineAt q bs j)) ++ rest
theorem leftS_succ {q : Int} {bs : List Bool} {n i : Nat} {rest : List Str} (hi : i < n) : leftS q bs n i rest = signs (lineAt q bs i) ++ leftS q bs n (i + 1) rest := by
  unfold leftS
  rw [List.drop_eq_getElem_cons (by simpa using hi), List.flatMap_cons, List.getElem_range, List.append_assoc]
theorem leftS_end {q : Int} {bs : List Bool} {n : Nat} {rest : List Str} : leftS q bs n n rest = rest := by
  unfold leftS
  rw [List.drop_of_length_le (by simp)]; rfl
theorem map_split {l : List (Str × Tok)} {a b : List Str} (h : l.map (·.1) = a ++ b) : ∃ l1 l2, l = l1 ++ l2 ∧ l1.map (·.1) = a ∧ l2.map (·.1) = b := by
  obtain ⟨l1, l2, e, h1, h2⟩ := List.map_eq_append_iff.mp h
  exact ⟨l1, l2, e, h1, h2⟩
/-- how things stand behind the reading of the lines -/
structure Sit (N0 : Nat) (P : Params) (σ : Sta) (gs : List Rm) (γ : Rm) (old : List (Addr × Obj)) (kg : Int) (bs : List Bool) (l : List (Str × Tok)) (news : List (Addr × Obj)) : Prop where
  old : ∀ p ∈ old, p ∈ news
  sta : StaIn P σ news
  left : LeftIn σ.lf (strValues l) news
  rooms : RoomsIn N0 P σ.S gs 2 bs news
  gate : RmIn P σ.S γ kg [] news
/-- how things stand while the lines are read -/
structure SitL (tk : Nat) (P : Params) (σ : Sta) (gs : List Rm) (γ : Rm) (old : List (Addr × Obj)) (q : Int) (bs : List Bool) (rest : List Str) (i : Nat) (ys : List Value) (news : List (Addr × Obj)) : Prop where
  old : ∀ p ∈ old, p ∈ news
  sta : StaIn P σ news
  left : ∃ l : List (Str × Tok), LeftIn σ.lf (strValues l) news ∧ l.map (·.1) = leftS q bs gs.length i rest ∧ l.length ≤ 600 ∧ ∀ x ∈ l, x.1.length = 1
  done : ∀ (j : Nat) (ρ : Rm) (b : Bool), j < i → gs[j]? = some ρ → bs[j]? = some b → RoomB tk P σ.S ρ 2 b news
  todo : ∀ (j : Nat) (ρ : Rm), i ≤ j → (gs ++ [γ])[j]? = some ρ → RmIn P σ.S ρ 1 [] news
  lines : LinesIn ys (bs.take i) news
theorem RoomB.mono {tk tk' : Nat} {P : Params} {S : Addr} {ρ : Rm} {k : Int} {b : Bool} {news : List (Addr × Obj)} (h : RoomB tk P S ρ k b news) (hle : tk ≤ tk') : RoomB tk' P S ρ k b news := by
  obtain ⟨t, t', h1, h2, h3⟩ := h
  exact ⟨t, t', h1.mono hle, h2.mono hle, h3⟩
theorem SitL.mono {tk tk' : Nat} {P : Params} {σ : Sta} {gs : List Rm} {γ : Rm} {old : List (Addr × Obj)} {q : Int} {bs : List Bool} {rest : List Str} {i : Nat} {ys : List Value} {news : List (Addr × Obj)} (h : SitL tk P σ gs γ old q bs rest i ys news) (hle : tk ≤ tk') : SitL tk' P σ gs γ old q bs rest i ys news :=
  ⟨h.old, h.sta, h.left, fun j ρ b a1 a2 a3 => (h.done j ρ b a1 a2 a3).mono hle, h.todo, h.lines⟩
/-- one more line -/
theorem SitL.turn {tk tk' : Nat} {P : Params} {σ : Sta} {gs : List Rm} {γ ρ : Rm} {old : List (Addr × Obj)} {q : Int} {bs : List Bool} {rest : List Str} {i : Nat} {ys : List Value} {h₀ h : Heap} {L : Addr} {nw nw' : List (Addr × Obj)} {l1 l2 : List (Str × Tok)} {a : Addr} {t0 t1 : Tok} {b : Bool}
    (H : SitL tk P σ gs γ old q bs rest i ys nw) (N : News h₀ L h nw) (hS : Stat σ (gs ++ [γ]) old) (hle : tk ≤ tk') (hgi : gs[i]? = some ρ) (hbi : bs[i]? = some b)
    (Lf : LeftIn σ.lf (strValues (l1 ++ l2)) nw) (hl1 : ∀ x ∈ l1 ++ l2, x.1.length = 1) (hll : l2.length ≤ 600) (hl2 : l2.map (·.1) = leftS q bs gs.length (i + 1) rest)
    (K : Keep [σ.lf, ρ.d, ρ.pb] nw nw') (St' : StaIn P σ nw') (R' : RmIn P σ.S ρ 2 [.str (wd b) t0, .str (wd (!b)) t1] nw') (Lf' : LeftIn σ.lf (strValues l2) nw') (hm : (a, listOf #[.str (wd b) t0, .str (wd (!b)) t1] 0) ∈ nw') (ho0 : Okt t0 tk') (ho1 : Okt t1 tk') :
    SitL tk' P σ gs γ old q bs rest (i + 1) (ys ++ [.ref a]) nw' := by
  have hil : i < gs.length := (List.getElem?_eq_some_iff.mp hgi).1
  have hgi' : (gs ++ [γ])[i]? = some ρ := by rw [List.getElem?_append_left hil]; exact hgi
  have Rρ := H.todo i ρ (Nat.le_refl _) hgi'
  have hmem : ρ ∈ gs ++ [γ] := List.mem_of_getElem? hgi'
  have ap : ∀ (j : Nat) (ρ' : Rm) (k' : Int) (ws' : List Value), j ≠ i → (gs ++ [γ])[j]? = some ρ' → RmIn P σ.S ρ' k' ws' nw → RmIn P σ.S ρ' k' ws' nw' := fun j ρ' k' ws' hji hj Rj => by
    have hd := hS.dst j i ρ' ρ hj hgi' hji
    have z := RmIn.apart N Rρ Rj Lf (hS.lf ρ' (List.mem_of_getElem? hj)) hd
    exact Rj.keep K z.1 z.2.1 z.2.2
  refine ⟨fun p hp => K p (H.old p hp) ?_, St', ⟨l2, Lf', hl2, hll, fun x hx => hl1 x (List.mem_append_right _ hx)⟩, fun j ρ' c hj hgj hbj => ?_, fun j ρ' hj hgj => ?_, ?_⟩
  · have z := hS.off p hp
    exact three z.1 (z.2 ρ hmem).1 (z.2 ρ hmem).2
  · by_cases e : j = i
    · subst e
      rw [hgi] at hgj
      rw [hbi] at hbj
      cases hgj
      cases hbj
      exact ⟨t0, t1, ho0, ho1, R'⟩
    · obtain ⟨u, u', o1, o2, Rj⟩ := H.done j ρ' c (by omega) hgj hbj
      exact ⟨u, u', o1.mono hle, o2.mono hle, ap j ρ' _ _ e (by rw [List.getElem?_append_left (List.getElem?_eq_some_iff.mp hgj).1]; exact hgj) Rj⟩
  · exact ap j ρ' _ _ (by omega) hgj (H.todo j ρ' (by omega) hgj)
  · have htk : bs.take (i + 1) = bs.take i ++ [b] := by rw [List.take_add_one, hbi]; rfl
    rw [htk]
    exact (H.lines.keep N Rρ Lf hl1 K).snoc hm
theorem SitL.fin {tk : Nat} {P : Params} {σ : Sta} {gs : List Rm} {γ : Rm} {old : List (Addr × Obj)} {q : Int} {bs : List Bool} {rest : List Str} {i : Nat} {ys : List Value} {news : List (Addr × Obj)} (h : SitL tk P σ gs γ old q bs rest i ys news) (hi : i = gs.length) (hlen : gs.length = bs.length) :
    ∃ l : List (Str × Tok), Sit tk P σ gs γ old 1 bs l news ∧ l.map (·.1) = rest ∧ l.length ≤ 600 ∧ (∀ x ∈ l, x.1.length = 1) ∧ LinesIn ys bs news := by
  subst hi
  obtain ⟨l, h1, h2, h3, h4⟩ := h.left
  rw [leftS_end] at h2
  refine ⟨l, ⟨h.old, h.sta, h1, ⟨hlen, fun j ρ b hj hb => h.done j ρ b (List.getElem?_eq_some_iff.mp hj).1 hj hb⟩, h.todo gs.length γ (Nat.le_refl _) (by rw [List.getElem?_append_right (Nat.le_refl _), Nat.sub_self]; rfl)⟩, h2, h3, h4, ?_⟩
  have := h.lines
  rwa [hlen, List.take_length] at this
/-! part PhI -/
theorem ListComp_KF {prog : Program} {w : World} {A : Around} {E : Value → Shared → Prop} {s : Shared} {h₀ : Heap} {L : Addr} {m : Str → Option Value} {env : Env} {elt iter : PySem.Expr} {x : Str} {px : Pos} {scope : Scope} {cl : List (Str × Addr)} {pos : Pos} {Q : Value → Shared → Prop} (_F : Fr h₀ L s.heap m)
    (hclos : closureFor scope env = pure cl) (hcell : ∀ y ∈ scope.names, y.2 ≠ .cell) (hkind : scope.kind = .function)
    (hnames : ∀ y ∈ scope.names, y.2 = .local → scope.names.lookup y.1 = some .local) (hx : scope.names.lookup x = some .local)
    (h : wpAny (model prog w) A (eval iter env) (CompK prog w A h₀ L m env elt x scope cl Q) E s)
    (hs : ∀ x, foldedSetIterable iter env x = pure x := by intro _; rfl) :
    wpAny (model prog w) A (eval (.ListComp elt [⟨.Name x px, iter, [], 0⟩] scope pos) env) Q E s := ListComp_K hclos hcell hkind hnames hx h hs
section
variable {w : World} {p : Program} {loose : List Str} {mean : ExcName → Option Value} {mg mb : Str → Option Value} {g : Heap} {L fa : Addr} {cd : Value} {s : Shared} {m : Str → Option Value} {Q : Flow → Shared → Prop}
theorem law_F {n : Nat} {Fa Sa Ra : Addr} {vF : List Value} {nF nR : Nat} {bs : List Bool} {σ : Sta} {gs : List Rm} {γ : Rm} {q : Int} {rest : List Str} {l : List (Str × Tok)} {old news : List (Addr × Obj)}
    (X : (Mine.hd.heap_39 w.params).In g) (T : Top p loose mean mg mb g) (K : Below callerA g [] g) (CH : CodeHd g 104 100) (hn2 : 2 ≤ n) (hn5 : n ≤ 5) (hbl : bs.length = n) (hgl : gs.length = n)
    (F : Fr g L s.heap m) (mF : m (Str.ofString "fronts") = some (.ref Fa)) (mS : m (Str.ofString "starts") = some (.ref Sa)) (mR : m (Str.ofString "rooms") = some (.ref Ra)) (mG : m (Str.ofString "gate") = some (.ref γ.r)) (N : News g L s.heap news)
    (hF : (Fa, listOf vF.toArray nF) ∈ old) (hW : Ws vF bs) (hRa : (Ra, listOf (gs.map fun ρ => Value.ref ρ.r).toArray nR) ∈ old) (hold' : ∀ p ∈ old, p ∈ news)
    (St : StaIn w.params σ news) (Lf : LeftIn σ.lf (strValues l) news) (hl : l.map (·.1) = leftS q bs gs.length 0 rest) (hll : l.length ≤ 600) (hl1 : ∀ x ∈ l, x.1.length = 1)
    (hR : ∀ ρ ∈ gs ++ [γ], RmIn w.params σ.S ρ 1 [] news) (hS : Stat σ (gs ++ [γ]) old)
    (next : ∀ (N0 : Nat) (l' : List (Str × Tok)) (h' : Heap) (tk' : Nat) (m' : Str → Option Value) (news' : List (Addr × Obj)), Fr g L h' m' → m' (Str.ofString "fronts") = some (.ref Fa) → m' (Str.ofString "starts") = some (.ref Sa) → m' (Str.ofString "rooms") = some (.ref Ra) → m' (Str.ofString "gate") = some (.ref γ.r) → News g L h' news' →
      Sit N0 w.params σ gs γ old 1 bs l' news' → N0 ≤ tk' → l'.map (·.1) = rest → l'.length ≤ 600 → (∀ x ∈ l', x.1.length = 1) → wpAny (model PySem.Challenge.rw_pg0063_01.row.prog w) (callerA.deeper (lawEnv L fa cd)) (execs (lawB.drop 8) (lawEnv L fa cd)) Q (fun _ _ => False) { s with heap := h', toks := tk' }) :
    wpAny (model PySem.Challenge.rw_pg0063_01.row.prog w) (callerA.deeper (lawEnv L fa cd)) (execs (lawB.drop 7) (lawEnv L fa cd)) Q (fun _ _ => False) s := by
  k_with_none
  w_top off
  k_with "call builtin:list.pop" => (k_here; (with_reducible show wpAny _ _ (call (Value.builtin _) [Value.ref _, Value.int 0 _]) _ _ _); k_dflt (refine pop0 (by k_asm) (by k_asm) (by k_upd) (by assumption) ?_); intro _ _ _)
  k_with "truthy ref" => (k_here; k_dflt (refine truthyCons (by k_asm) (by k_mem) (by assumption) ?_); (try rw [if_pos rfl]))
  k_with "call builtin:len" => (k_here; (with_reducible show wpAny _ _ (call (Value.builtin "len") [Value.ref _]) _ _ _); k_dflt (refine lenLed (by k_asm) (by k_mem) (by first | assumption | (simp only [List.length_cons, List.length_nil]; omega)) ?_))
  k_with "eval Name" => (k_here; (with_reducible show wpAny _ _ (eval (Expr.Name _ _) (compEnvC _ _ _ _)) _ _ _); k_dflt (refine LCgL.ld_own (by k_asm) (.tail _ (.head _)) (by assumption) (by assumption) ?_))
  k_with "eval ListComp" => refine hold ?_
  k_with "CompK" => refine hold ?_
  k_with "call ref" => (k_dflt (show wpAny _ _ (call (Value.ref 112) [Value.ref _]) _ _ _); refine hold ?_)
  k_with "call ref" => (k_dflt (show wpAny _ _ (call (Value.ref 117) [Value.ref _]) _ _ _); refine hold ?_)
  k_with "compareOp NotEq ref ref" => refine hold ?_
  k_with "execs cons" => (k_dflt (show wpAny _ _ (execs (Stmt.Assign _ _ _ :: _) _) _ _ _); refine hold ?_)
  unfold lawEnv at next ⊢
  rw [show lawB.drop 8 = _ :: _ from rfl, show lawSc = ⟨_, _, _, _, _⟩ from rfl] at next
  rw [show lawB.drop 7 = _ :: _ from rfl, show lawSc = ⟨_, _, _, _, _⟩ from rfl]
  have F1 := frMap (m' := fun z => if z = Str.ofString "fronts" then some (.ref Fa) else if z = Str.ofString "starts" then some (.ref Sa) else if z = Str.ofString "rooms" then some (.ref Ra) else if z = Str.ofString "gate" then some (.ref γ.r) else m z) F (fun z => by
      by_cases h1 : z = Str.ofString "fronts"
      · rw [if_pos h1, h1, mF]
      · rw [if_neg h1]
        by_cases h2 : z = Str.ofString "starts"
        · rw [if_pos h2, h2, mS]
        · rw [if_neg h2]
          by_cases h3 : z = Str.ofString "rooms"
          · rw [if_pos h3, h3, mR]
          · rw [if_neg h3]
            by_cases h4 : z = Str.ofString "gate"
            · rw [if_pos h4, h4, mG]
            · rw [if_neg h4])
  clear F
  have next' := hold next
  clear next
  k_steps
  refine Hold.out ?_
  refine ListComp_KF F1 (by rfl) (by decide) (by rfl) (by decide) (by rfl) ?_
  k_steps
  refine Hold.out ⟨Ra, (gs.map fun ρ => Value.ref ρ.r).toArray, nR, news, fun i ys nw tk => SitL tk w.params σ gs γ old q bs rest i ys nw, rfl, by rfl, by k_asm, by k_asm, fun i ys nw tk h => h.old _ hRa, by rw [List.size_toArray, List.length_map, sizeLine_eq]; omega, fun i ys nw tk tk' hle h => h.mono hle, ⟨hold', St, ⟨l, Lf, hl, hll, hl1⟩, fun j ρ b hj => absurd hj (Nat.not_lt_zero _), fun j ρ _ hj => hR ρ (List.mem_of_getElem? hj), ⟨by simp, fun i y b hy => by simp at hy⟩⟩, ?_, ?_⟩
  · intro i v ys nw I oI C oC D m₂ h tk E' hv htk1 hJ hcI hC hx F9 N9 off9 ne9
    rw [List.getElem?_toArray, List.getElem?_map] at hv
    obtain ⟨ρ, hgi, rfl⟩ := Option.map_eq_some_iff.mp hv
    have hil : i < gs.length := (List.getElem?_eq_some_iff.mp hgi).1
    have hib : i < bs.length := by omega
    have hbi : bs[i]? = some bs[i] := List.getElem?_eq_getElem hib
    have hgd : bs.getD i false = bs[i] := by rw [List.getD_eq_getElem?_getD, hbi]; rfl
    generalize bs[i] = b at hbi hgd
    have hgi' : (gs ++ [γ])[i]? = some ρ := by rw [List.getElem?_append_left hil]; exact hgi
    have hmem : ρ ∈ gs ++ [γ] := List.mem_of_getElem? hgi'
    have Rρ := hJ.todo i ρ (Nat.le_refl _) hgi'
    obtain ⟨li, Li, hli, hlil, hli1⟩ := hJ.left
    rw [leftS_succ hil] at hli
    obtain ⟨l1, l2, rfl, e1, e2⟩ := map_split hli
    have hl2l : l2.length ≤ 600 := by rw [List.length_append] at hlil; omega
    unfold lineAt at e1
    rw [hgd] at e1
    obtain ⟨mid, G1, G2⟩ := line_reads (prog := PySem.Challenge.rw_pg0063_01.row.prog) (w := w) (p := p) (loose := loose) (mean := mean) (mg := mg) (mb := mb) (base := g) (σ := σ) (ρ := ρ) (k := 1) hl2l e1
    have hmr := Rρ.hr
    have N9h := Hold.out N9
    k_steps
    refine Hold.out (wpAny_with_toks (n := tk) (by dsimp only; omega) (line_r (by k_asm) (by k_asm) (by k_asm) (by k_asm) (by k_asm) (by rfl) CH G1 G2 (hJ.sta.mono fun p hp => .tail _ (.tail _ (.tail _ hp))) (Rρ.mono fun p hp => .tail _ (.tail _ (.tail _ hp))) (Li.mono fun p hp => .tail _ (.tail _ (.tail _ hp))) (hS.lf ρ hmem) (by dsimp only; omega) (by cases b <;> decide) (by cases b <;> decide) (by ktr_room) (by ktr_units) ?_))
    intro a t0 t1 h' tk' news' F' N' K' St' R' Lf' hm ho0 ho1 hlt htk
    dsimp only at htk
    obtain ⟨nl, ml⟩ := Li
    obtain ⟨tl, md⟩ := Rρ.hd
    obtain ⟨np, mp⟩ := Rρ.hpb
    have offI := off9.mem
    have z1 := offI _ ml
    have z2 := offI _ md
    have z3 := offI _ mp
    have hKo := keepOff3 K' off9
    have hno := off3_not off9
    refine CompKEnd.intro (offs [I, C, D] news') F' (newsOff3 N' K' (three (Ne.symm z1.1) (Ne.symm z2.1) (Ne.symm z3.1)) (three (Ne.symm z1.2.1) (Ne.symm z2.2.1) (Ne.symm z3.2.1)) (three (Ne.symm z1.2.2) (Ne.symm z2.2.2) (Ne.symm z3.2.2))) offs_off3 ?_
    refine hJ.turn (fun p hp => (id N9h : News _ _ _ _) p (.tail _ (.tail _ (.tail _ hp)))) hS htk hgi hbi ⟨nl, ml⟩ hli1 hl2l e2 hKo (hJ.sta.offs St' hno) (Rρ.offs R' hno) (LeftIn.offs ⟨nl, ml⟩ Lf' hno) (mem_offs hm ?_) ho0 ho1
    · exact three (Ne.symm (Nat.ne_of_lt (hlt _ (.head _)))) (Ne.symm (Nat.ne_of_lt (hlt _ (.tail _ (.head _))))) (Ne.symm (Nat.ne_of_lt (hlt _ (.tail _ (.tail _ (.head _))))))
  · intro ys nw D h tk hJ F9 N9 off9
    rw [List.size_toArray, List.length_map] at hJ
    obtain ⟨l', hSit, hl', hll', hl1', hLn⟩ := hJ.fin rfl (by omega)
    have hF' := hSit.old _ hF
    k_steps
    refine Hold.out (wpAny_with_toks (n := tk) (by dsimp only; omega) (lines_t (by k_asm) (by k_asm) (by k_asm) (by k_asm) (by k_asm) (by rfl) (.tail _ hF') hW (by rw [hW.len]; omega) (by ktr_room) (by ktr_units) ?_))
    intro D2 ys2 h2 tk2 nw2 F2 N2 hsub hLn2 hoff2 htk2
    dsimp only at htk2
    k_steps
    refine Hold.out (lines_ne (n := ys.length) (n' := ys2.length) (by k_asm) (.tail _ (hsub _ (.head _))) (.head _) (hLn.mono fun p hp => .tail _ (hsub _ (.tail _ hp))) (hLn2.mono fun p hp => .tail _ hp) (by omega) (by omega) (by ktr_units) ?_)
    k_steps
    refine Hold.out (Hold.out next' tk l' _ _ _ _ (by k_asm) rfl rfl rfl rfl (by k_asm) ⟨fun p hp => .tail _ (hsub _ (.tail _ (hSit.old p hp))), hSit.sta.mono fun p hp => .tail _ (hsub _ (.tail _ hp)), hSit.left.mono fun p hp => .tail _ (hsub _ (.tail _ hp)), ⟨hSit.rooms.len, fun i ρ b hi hb => ?_⟩, hSit.gate.mono fun p hp => .tail _ (hsub _ (.tail _ hp))⟩ (by omega) hl' hll' hl1')
    obtain ⟨t, t', o1, o2, R⟩ := hSit.rooms.all i ρ b hi hb
    exact ⟨t, t', o1, o2, R.mono fun p hp => .tail _ (hsub _ (.tail _ hp))⟩
end
/-! part PhJ -/
/-! the plain law once more: how large the steps are -/
def stepOk (bs : List Bool) (st : Nat) : Bool := decide (0 ≤ (walkF 20 bs (st : Int) 0).2.2) && decide ((walkF 20 bs (st : Int) 0).2.2 ≤ 20)
theorem step_ok : ([2, 3, 4, 5].all fun n => (allBs n).all fun bs => (List.range n).all fun i => stepOk bs (i + 1)) = true := by decide +kernel
theorem mem2345 {n : Nat} (h2 : 2 ≤ n) (h5 : n ≤ 5) : n ∈ [2, 3, 4, 5] := by
  have : n = 2 ∨ n = 3 ∨ n = 4 ∨ n = 5 := by omega
  rcases this with e | e | e | e <;> rw [e] <;> decide
theorem step_pure {bs : List Bool} {st : Nat} (h2 : 2 ≤ bs.length) (h5 : bs.length ≤ 5) (h1 : 1 ≤ st) (hs : st ≤ bs.length) : stepOk bs st = true := by
  have h := step_ok
  rw [List.all_eq_true] at h
  have h := h _ (mem2345 h2 h5)
  rw [List.all_eq_true] at h
  have h := h bs (mem_allBs bs)
  rw [List.all_eq_true] at h
  have h := h (st - 1) (List.mem_range.mpr (by omega))
  rw [show st - 1 + 1 = st by omega] at h
  exact h
/-- what the plain law says of one walker -/
structure LawAt (bs : List Bool) (x : Int) : Prop where
  walk : walkF 20 bs x 0 = ((toldP bs x).2, (toldP bs x).1, hgt (toldP bs x).1 (toldP bs x).2 - hgt x bs)
  len : (toldP bs x).2.length = bs.length
  count : ((((toldP bs x).2.count true : Nat)) : Int) = Int.fmod (((bs.count true : Nat) : Int) + x) ((bs.length : Int) + 1)
  lo : 0 ≤ (toldP bs x).1
  hi : (toldP bs x).1 ≤ 6
  slo : 0 ≤ hgt (toldP bs x).1 (toldP bs x).2 - hgt x bs
  shi : hgt (toldP bs x).1 (toldP bs x).2 - hgt x bs ≤ 20
theorem lawAt {bs : List Bool} {x : Int} (h2 : 2 ≤ bs.length) (h5 : bs.length ≤ 5) (h1 : 1 ≤ x) (hs : x ≤ bs.length) : LawAt bs x := by
  obtain ⟨st, rfl⟩ : ∃ st : Nat, x = (st : Int) := ⟨x.toNat, by omega⟩
  have h := law_pure (st := st) h2 h5 (by omega) (by omega)
  have g := step_pure (st := st) h2 h5 (by omega) (by omega)
  unfold lawOk at h
  unfold stepOk at g
  simp only [Bool.and_eq_true, decide_eq_true_eq] at h g
  obtain ⟨⟨⟨⟨e1, e2⟩, e3⟩, e4⟩, e5⟩ := h
  rw [e1] at g
  refine ⟨e1, e2, ?_, e4, e5, g.1, g.2⟩
  rw [e3, Int.fmod_eq_emod_of_nonneg _ (by omega), Int.natCast_emod, Int.natCast_add, Int.natCast_add]
  rfl
/-! strs of two small ints -/
def pairD (x y : Int) : PyData := .list [.int x, .int y]
theorem pair_ok : ((List.range 7).all fun i => (List.range 21).all fun j => (pairD (i : Int) (j : Int)).showable && !(pairD (i : Int) (j : Int)).hasDict && decide ((pairD (i : Int) (j : Int)).shown.length ≤ 100) && decide ((pairD (i : Int) (j : Int)).depth ≤ 10)) = true := by decide +kernel
theorem pair_at {x y : Int} (hx0 : 0 ≤ x) (hx : x ≤ 6) (hy0 : 0 ≤ y) (hy : y ≤ 20) : (pairD x y).showable = true ∧ (pairD x y).hasDict = false ∧ (pairD x y).shown.length ≤ 100 ∧ (pairD x y).depth ≤ 10 := by
  obtain ⟨i, rfl⟩ : ∃ i : Nat, x = (i : Int) := ⟨x.toNat, by omega⟩
  obtain ⟨j, rfl⟩ : ∃ j : Nat, y = (j : Int) := ⟨y.toNat, by omega⟩
  have h := pair_ok
  rw [List.all_eq_true] at h
  have h := h i (List.mem_range.mpr (by omega))
  rw [List.all_eq_true] at h
  have h := h j (List.mem_range.mpr (by omega))
  simp only [Bool.and_eq_true, decide_eq_true_eq, Bool.not_eq_true'] at h
  exact ⟨h.1.1.1, h.1.1.2, h.1.2, h.2⟩
section
variable {prog : Program} {w : World} {A : Around} {E : Value → Shared → Prop} {s : Shared} {h₀ : Heap} {L D : Addr} {m : Str → Option Value} {news : List (Addr × Obj)} {n : Nat} {Q : Value → Shared → Prop}
theorem strPair {x y : Int} {t u : Tok} (F : Fr h₀ L s.heap m) (N : News h₀ L s.heap news) (hm : (D, listOf #[.int x t, .int y u] n) ∈ news) (hx0 : 0 ≤ x) (hx : x ≤ 6) (hy0 : 0 ≤ y) (hy : y ≤ 20) (hg : A.guards = some []) (hu : A.units + 20 < cLine)
    (h : ∀ h' t' tk', Fr h₀ L h' m → News h₀ L h' news → Q (.str (pairD x y).shown t') { s with heap := h', toks := tk' }) : wpAny (model prog w) A (call (.type "str") [.ref D]) Q E s := by
  obtain ⟨z1, z2, z3, z4⟩ := pair_at hx0 hx hy0 hy
  refine str_of_reads (h₀ := s.heap) (d := pairD x y) (reads_list_at (N _ hm).1 rfl rfl (readsAll_cons_val (.int _ _) (readsAll_cons_val (.int _ _) .nil))) z1 (PyData.noDict_hsm z2) hg (by omega) (fun _ _ e => e) (fun h' u tk hk => h h' u tk (F.keptAll hk) (N.grown hk)) (by rw [sizeLine_eq]; omega)
theorem letter_item {x : Int} (h1 : 1 ≤ x) (h5 : x ≤ 5) : Txt.item (Str.ofString "abcde") (x - 1) = letterS x := by
  have hc : x = 1 ∨ x = 2 ∨ x = 3 ∨ x = 4 ∨ x = 5 := by omega
  rcases hc with rfl | rfl | rfl | rfl | rfl <;> decide +kernel
theorem letterLed {value slice : PySem.Expr} {x : Int} {t u : Tok} (h1 : 1 ≤ x) (h5 : x ≤ 5) (h : Q (.str (letterS x) s.toks) { s with toks := s.toks + 1 })
    (hs : subscripted slice false (.str (Str.ofString "abcde") t) (.int (x - 1) u) = operate [.str (Str.ofString "abcde") t, .int (x - 1) u] (getItem (.str (Str.ofString "abcde") t) (.int (x - 1) u)) := by with_unfolding_all rfl)
    (ht : ∀ r, letTemporaryGo value (.str (Str.ofString "abcde") t) r = pure () := by intro _; with_unfolding_all rfl) :
    wpAny (model prog w) A (subscriptTail value slice (.str (Str.ofString "abcde") t) (.int (x - 1) u)) Q E s :=
  KXi.item (n := 5) (by decide) (by omega) (by omega) (by decide) (fun _ => by rw [letter_item h1 h5]; exact h) hs ht
theorem Ws.strs {vs : List Value} {bs : List Bool} (h : Ws vs bs) : StrsAre vs (bs.map wd) := by
  induction bs generalizing vs with
  | nil => cases vs with
    | nil => exact .nil
    | cons v vs => have := h.len; simp at this
  | cons b bs ih => cases vs with
    | nil => have := h.len; simp at this
    | cons v vs =>
      obtain ⟨t, rfl⟩ := h.all 0 v b rfl rfl
      exact .cons _ _ (ih ⟨by have := h.len; simpa using this, fun i v b hv hb => h.all (i + 1) v b (by simpa using hv) (by simpa using hb)⟩)
theorem count_words : ∀ (bs : List Bool), PySem.Spec.countIn (.str (Str.ofString "add")) ((bs.map wd).map PyData.str) = ((bs.count true : Nat) : Int)
  | [] => rfl
  | true :: bs => by
    rw [List.map_cons, List.map_cons, PySem.Spec.countIn, count_words bs, List.count_cons_self, if_pos (by decide +kernel)]
    omega
  | false :: bs => by
    rw [List.map_cons, List.map_cons, PySem.Spec.countIn, count_words bs, List.count_cons_of_ne (by decide), if_neg (by decide +kernel)]
    omega
theorem countLed {vs : List Value} {bs : List Bool} {t : Tok} (N : News h₀ L s.heap news) (hm : (D, listOf vs.toArray n) ∈ news) (hW : Ws vs bs) (h : ∀ t' k, Q (.int ((bs.count true : Nat) : Int) t') { s with toks := k }) :
    wpAny (model prog w) A (call (.builtin "list.count") [.ref D, .str (Str.ofString "add") t]) Q E s :=
  count_list_strs (News.isList N hm) hW.strs (by rw [count_words]; exact h _ _)
end
/-! the lists that are shown -/
structure LinesT (N0 : Nat) (rs : List Rm) (ys : List Value) (bs : List Bool) (news : List (Addr × Obj)) : Prop where
  len : ys.length = bs.length
  all : ∀ (i : Nat) (y : Value) (b : Bool), ys[i]? = some y → bs[i]? = some b → ∃ l n t t', y = .ref l ∧ (l, listOf #[.str (wd b) t, .str (wd (!b)) t'] n) ∈ news ∧ Okt t N0 ∧ ∀ ρ ∈ rs, l ≠ ρ.pb
theorem LinesT.lines {N0 : Nat} {rs : List Rm} {ys : List Value} {bs : List Bool} {news : List (Addr × Obj)} (h : LinesT N0 rs ys bs news) : LinesIn ys bs news :=
  ⟨h.len, fun i y b hy hb => by obtain ⟨l, n, t, t', e, hm, _⟩ := h.all i y b hy hb; exact ⟨l, n, t, t', e, hm⟩⟩
theorem LinesT.mono {N0 : Nat} {rs : List Rm} {ys : List Value} {bs : List Bool} {news news' : List (Addr × Obj)} (h : LinesT N0 rs ys bs news) (hs : ∀ p ∈ news, p ∈ news') : LinesT N0 rs ys bs news' :=
  ⟨h.len, fun i y b hy hb => by obtain ⟨l, n, t, t', e, hm, ho, hp⟩ := h.all i y b hy hb; exact ⟨l, n, t, t', e, hs _ hm, ho, hp⟩⟩
theorem LinesT.keep {N0 : Nat} {rs : List Rm} {ys : List Value} {bs : List Bool} {ρ : Rm} {news news' : List (Addr × Obj)} (h : LinesT N0 rs ys bs news) (hρ : ρ ∈ rs) (hk : Keep [ρ.pb] news news') : LinesT N0 rs ys bs news' :=
  ⟨h.len, fun i y b hy hb => by obtain ⟨l, n, t, t', e, hm, ho, hp⟩ := h.all i y b hy hb; exact ⟨l, n, t, t', e, hk _ hm (by simpa using hp ρ hρ), ho, hp⟩⟩
theorem LinesT.snoc {N0 : Nat} {rs : List Rm} {ys : List Value} {bs : List Bool} {b : Bool} {l : Addr} {n : Nat} {t t' : Tok} {news : List (Addr × Obj)} (h : LinesT N0 rs ys bs news) (hm : (l, listOf #[.str (wd b) t, .str (wd (!b)) t'] n) ∈ news) (ho : Okt t N0) (hp : ∀ ρ ∈ rs, l ≠ ρ.pb) : LinesT N0 rs (ys ++ [.ref l]) (bs ++ [b]) news :=
  ⟨by simp [h.len], fun i y c hy hc => by
    by_cases hi : i < ys.length
    · rw [List.getElem?_append_left hi] at hy
      rw [List.getElem?_append_left (h.len ▸ hi)] at hc
      exact h.all i y c hy hc
    · rw [List.getElem?_append_right (by omega)] at hy
      rw [List.getElem?_append_right (by rw [← h.len]; omega), ← h.len] at hc
      cases e : i - ys.length with
      | zero => rw [e] at hy hc; simp only [List.getElem?_cons_zero, Option.some.injEq] at hy hc; subst hy; subst hc; exact ⟨l, n, t, t', rfl, hm, ho, hp⟩
      | succ j => rw [e] at hy; simp at hy⟩
theorem WsT.snoc {N0 : Nat} {vs : List Value} {bs : List Bool} {b : Bool} {t : Tok} (h : WsT N0 vs bs) (ho : Okt t N0) : WsT N0 (vs ++ [.str (wd b) t]) (bs ++ [b]) :=
  ⟨by simp [h.len], fun i v c hy hc => by
    by_cases hi : i < vs.length
    · rw [List.getElem?_append_left hi] at hy
      rw [List.getElem?_append_left (h.len ▸ hi)] at hc
      exact h.all i v c hy hc
    · rw [List.getElem?_append_right (by omega)] at hy
      rw [List.getElem?_append_right (by rw [← h.len]; omega), ← h.len] at hc
      cases e : i - vs.length with
      | zero => rw [e] at hy hc; simp only [List.getElem?_cons_zero, Option.some.injEq] at hy hc; subst hy; subst hc; exact ⟨t, rfl, ho⟩
      | succ j => rw [e] at hy; simp at hy⟩
/-! how the situation goes on -/
section
variable {N0 : Nat} {P : Params} {σ : Sta} {gs : List Rm} {γ : Rm} {old : List (Addr × Obj)} {kg : Int} {bs : List Bool} {l : List (Str × Tok)} {h₀ h : Heap} {L : Addr} {news news' : List (Addr × Obj)}
theorem Sit.mono (H : Sit N0 P σ gs γ old kg bs l news) (hs : ∀ p ∈ news, p ∈ news') : Sit N0 P σ gs γ old kg bs l news' :=
  ⟨fun p hp => hs _ (H.old p hp), H.sta.mono hs, H.left.mono hs, ⟨H.rooms.len, fun i ρ b hi hb => by
    obtain ⟨t, t', o1, o2, R⟩ := H.rooms.all i ρ b hi hb
    exact ⟨t, t', o1, o2, R.mono hs⟩⟩, H.gate.mono hs⟩
theorem Sit.sub {old' : List (Addr × Obj)} (H : Sit N0 P σ gs γ old kg bs l news) (hs : ∀ p ∈ old', p ∈ news) : Sit N0 P σ gs γ old' kg bs l news := ⟨hs, H.sta, H.left, H.rooms, H.gate⟩
theorem Sit.offs {old' : List (Addr × Obj)} {kg' : Int} {bs' : List Bool} {l' : List (Str × Tok)} {nw : List (Addr × Obj)} {as : List Addr} (H0 : Sit N0 P σ gs γ old' kg' bs' l' nw) (H : Sit N0 P σ gs γ old kg bs l news) (ho : ∀ p ∈ nw, p.1 ∉ as) (hold : ∀ p ∈ old, p.1 ∉ as) : Sit N0 P σ gs γ old kg bs l (offs as news) := by
  refine ⟨fun p hp => mem_offs (H.old p hp) (hold p hp), H0.sta.offs H.sta ho, H0.left.offs H.left ho, ⟨H.rooms.len, fun i ρ b hi hb => ?_⟩, H0.gate.offs H.gate ho⟩
  obtain ⟨t, t', o1, o2, R⟩ := H.rooms.all i ρ b hi hb
  have hi' : i < gs.length := (List.getElem?_eq_some_iff.mp hi).1
  obtain ⟨u, u', _, _, R0⟩ := H0.rooms.all i ρ (bs'[i]'(by have := H0.rooms.len; omega)) hi (List.getElem?_eq_getElem _)
  exact ⟨t, t', o1, o2, R0.offs R ho⟩
theorem Sit.room (H : Sit N0 P σ gs γ old kg bs l news) {i : Nat} {ρ : Rm} (hi : gs[i]? = some ρ) : ∃ b, bs[i]? = some b ∧ RoomB N0 P σ.S ρ 2 b news := by
  have hi' : i < gs.length := (List.getElem?_eq_some_iff.mp hi).1
  exact ⟨_, List.getElem?_eq_getElem (by have := H.rooms.len; omega), H.rooms.all i ρ _ hi (List.getElem?_eq_getElem _)⟩
theorem getLast? {i : Nat} {ρ : Rm} (hi : gs[i]? = some ρ) : (gs ++ [γ])[i]? = some ρ := by
  rw [List.getElem?_append_left (List.getElem?_eq_some_iff.mp hi).1]; exact hi
theorem getGate : (gs ++ [γ])[gs.length]? = some γ := by rw [List.getElem?_append_right (Nat.le_refl _), Nat.sub_self]; rfl
/-- the gate has read a letter -/
theorem Sit.gateTurn {kg' : Int} {l' : List (Str × Tok)} (H : Sit N0 P σ gs γ old kg bs l news) (N : News h₀ L h news) (hS : Stat σ (gs ++ [γ]) old) (K : Keep [σ.lf, γ.d] news news') (St : StaIn P σ news') (R : RmIn P σ.S γ kg' [] news') (Lf : LeftIn σ.lf (strValues l') news') : Sit N0 P σ gs γ old kg' bs l' news' := by
  have hγ : γ ∈ gs ++ [γ] := List.mem_append_right _ (.head _)
  refine ⟨fun p hp => K p (H.old p hp) ?_, St, Lf, ⟨H.rooms.len, fun i ρ b hi hb => ?_⟩, R⟩
  · have z := hS.off p hp
    intro q
    rcases List.mem_cons.mp q with q | q
    · exact z.1 q
    · exact (z.2 γ hγ).1 (List.mem_singleton.mp q)
  · obtain ⟨t, t', o1, o2, R0⟩ := H.rooms.all i ρ b hi hb
    have hi' : i < gs.length := (List.getElem?_eq_some_iff.mp hi).1
    have z := RmIn.apart N H.gate R0 H.left (hS.lf ρ (List.mem_of_getElem? (getLast? hi))) (hS.dst i gs.length ρ γ (getLast? hi) getGate (by omega))
    have K3 : Keep [σ.lf, γ.d, γ.pb] news news' := K.wide fun x hx => by
      rcases List.mem_cons.mp hx with rfl | hx
      · exact .head _
      · rw [List.mem_singleton.mp hx]; exact .tail _ (.head _)
    exact ⟨t, t', o1, o2, R0.keep K3 z.1 z.2.1 z.2.2⟩
/-- a walker has gone -/
theorem Sit.walkTurn {bs' : List Bool} (H : Sit N0 P σ gs γ old kg bs l news) (N : News h₀ L h news) (hS : Stat σ (gs ++ [γ]) old) (K : Keep (gs.map (·.pb)) news news') (R : RoomsIn N0 P σ.S gs 2 bs' news') : Sit N0 P σ gs γ old kg bs' l news' := by
  have pbs : ∀ a ∈ gs.map (·.pb), ∃ (i : Nat) (ρ : Rm) (ws : List Value) (np : Nat), gs[i]? = some ρ ∧ a = ρ.pb ∧ (ρ.pb, listOf ws.toArray np) ∈ news := fun a ha => by
    obtain ⟨ρ, hρ, rfl⟩ := List.mem_map.mp ha
    obtain ⟨i, hi⟩ := List.getElem?_of_mem hρ
    obtain ⟨b, _, t, t', _, _, R0⟩ := H.room hi
    obtain ⟨np, hp⟩ := R0.hpb
    exact ⟨i, ρ, _, np, hi, rfl, hp⟩
  refine ⟨fun p hp => K p (H.old p hp) fun q => ?_, H.sta.keep (h₀ := h₀) (h := h) (L := L) K fun a o ha hc q => ?_, H.left.keep K fun q => ?_, R, H.gate.keep K (fun q => ?_) (fun q => ?_) fun q => ?_⟩
  · obtain ⟨i, ρ, ws, np, hi, e, hm⟩ := pbs _ q
    exact ((hS.off p hp).2 ρ (List.mem_of_getElem? (getLast? hi))).2 e
  · obtain ⟨i, ρ, ws, np, hi, e, hm⟩ := pbs _ q
    exact apart' N ha hm (by
      rcases hc with e | ⟨x, e⟩ | ⟨x, e⟩ | e | ⟨x, e⟩
      · intro q; rw [q] at e; simp at e
      all_goals exact neData e rfl (by intro q; cases q)) e
  · obtain ⟨i, ρ, ws, np, hi, e, hm⟩ := pbs _ q
    exact hS.lf ρ (List.mem_of_getElem? (getLast? hi)) e.symm
  · obtain ⟨i, ρ, ws, np, hi, e, hm⟩ := pbs _ q
    exact apart N H.gate.hr hm (by simp) e
  · obtain ⟨i, ρ, ws, np, hi, e, hm⟩ := pbs _ q
    obtain ⟨tl, hd⟩ := H.gate.hd
    exact apart N hd hm (by simp) e
  · obtain ⟨i, ρ, ws, np, hi, e, hm⟩ := pbs _ q
    have hi' : i < gs.length := (List.getElem?_eq_some_iff.mp hi).1
    exact (hS.dst gs.length i γ ρ getGate (getLast? hi) (by omega)).1 e
/-- a room's line has been asked -/
theorem Sit.lineTurn {i : Nat} {ρ : Rm} {b : Bool} (H : Sit N0 P σ gs γ old kg bs l news) (N : News h₀ L h news) (hS : Stat σ (gs ++ [γ]) old) (hi : gs[i]? = some ρ) (hb : bs[i]? = some b) (K : Keep [ρ.pb] news news') (R : RoomB N0 P σ.S ρ 2 b news') : Sit N0 P σ gs γ old kg bs l news' := by
  have hK : Keep (gs.map (·.pb)) news news' := K.wide fun x hx => by rw [List.mem_singleton.mp hx]; exact List.mem_map_of_mem (f := fun ρ : Rm => ρ.pb) (List.mem_of_getElem? hi)
  refine H.walkTurn N hS hK ?_
  have hd : Dst gs := fun i j ρ ρ' e1 e2 hij => hS.dst i j ρ ρ' (getLast? e1) (getLast? e2) hij
  have z := H.rooms.turn N hi hb K R hd
  have e : bs.set i b = bs := by
    obtain ⟨hl, e⟩ := List.getElem?_eq_some_iff.mp hb
    rw [← e, List.set_getElem_self]
  rwa [e] at z
end
/-! part PhK -/
def loopB : List PySem.Stmt := forBody (lawB.getD 9 default)
section
variable {w : World} {p : Program} {loose : List Str} {mean : ExcName → Option Value} {mg mb : Str → Option Value} {g : Heap} {L fa : Addr} {cd : Value} {s : Shared} {m : Str → Option Value} {Q : Flow → Shared → Prop}
/-- the names of the loop's frame -/
structure Nms (m : Str → Option Value) (Fb Sa Ra r : Addr) (c : Int) (tt : Tok) : Prop where
  fronts : m (Str.ofString "fronts") = some (.ref Fb)
  starts : m (Str.ofString "starts") = some (.ref Sa)
  rooms : m (Str.ofString "rooms") = some (.ref Ra)
  gate : m (Str.ofString "gate") = some (.ref r)
  total : m (Str.ofString "total") = some (.int c tt)
theorem turn_A {N0 : Nat} {Fb Sa Ra r : Addr} {vs : List Value} {nb : Nat} {bs : List Bool} {x c : Int} {tx tt : Tok} {news : List (Addr × Obj)}
    (X : (Mine.hd.heap_39 w.params).In g) (T : Top p loose mean mg mb g) (K : Below callerA g [] g) (h5 : bs.length ≤ 5) (hx1 : 1 ≤ x) (hx : x ≤ bs.length) (LA : LawAt bs x)
    (F : Fr g L s.heap m) (hm : Nms m Fb Sa Ra r c tt) (mX : m (Str.ofString "start") = some (.int x tx)) (N : News g L s.heap news) (hF : (Fb, listOf vs.toArray nb) ∈ news) (hW : Ws vs bs) (hN0 : N0 ≤ s.toks)
    (next : ∀ (Da : Addr) (vs' : List Value) (tg ts : Tok) (h' : Heap) (tk' : Nat) (m' : Str → Option Value) (news' : List (Addr × Obj)), Fr g L h' m' → Nms m' Fb Sa Ra r c tt → m' (Str.ofString "start") = some (.int x tx) → m' (Str.ofString "goal") = some (.int (toldP bs x).1 tg) → m' (Str.ofString "after") = some (.ref Da) → m' (Str.ofString "steps") = some (.int (hgt (toldP bs x).1 (toldP bs x).2 - hgt x bs) ts) →
      News g L h' news' → (∀ q ∈ news, q ∈ news') → (Da, listOf vs'.toArray 0) ∈ news' → Ws vs' (toldP bs x).2 → (∀ q ∈ news, @LT.lt Nat _ q.1 Da) → N0 ≤ tk' → wpAny (model PySem.Challenge.rw_pg0063_01.row.prog w) (callerA.deeper (lawEnv L fa cd)) (execs (loopB.drop 2) (lawEnv L fa cd)) Q (fun _ _ => False) { s with heap := h', toks := tk' }) :
    wpAny (model PySem.Challenge.rw_pg0063_01.row.prog w) (callerA.deeper (lawEnv L fa cd)) (execs loopB (lawEnv L fa cd)) Q (fun _ _ => False) s := by
  k_with_none
  w_top off
  k_with "call builtin:list.pop" => (k_here; (with_reducible show wpAny _ _ (call (Value.builtin _) [Value.ref _, Value.int 0 _]) _ _ _); k_dflt (refine pop0 (by k_asm) (by k_asm) (by k_upd) (by assumption) ?_); intro _ _ _)
  k_with "truthy ref" => (k_here; k_dflt (refine truthyCons (by k_asm) (by k_mem) (by assumption) ?_); (try rw [if_pos rfl]))
  k_with "call builtin:len" => (k_here; (with_reducible show wpAny _ _ (call (Value.builtin "len") [Value.ref _]) _ _ _); k_dflt (refine lenLed (by k_asm) (by k_mem) (by first | assumption | (simp only [List.length_cons, List.length_nil]; omega)) ?_))
  k_with "eval Name" => (k_here; (with_reducible show wpAny _ _ (eval (Expr.Name _ _) (compEnvC _ _ _ _)) _ _ _); k_dflt (refine LCgL.ld_own (by k_asm) (.tail _ (.head _)) (by assumption) (by assumption) ?_))
  k_with "eval ListComp" => refine hold ?_
  k_with "CompSrc" => refine hold ?_
  k_with "CompK" => refine hold ?_
  k_with "ForK" => refine hold ?_
  k_with "exec For Name Name cons nil" => refine hold ?_
  k_with "call ref" => (k_dflt (show wpAny _ _ (call (Value.ref 42) [Value.ref _]) _ _ _); refine hold ?_)
  k_with "call ref" => (k_dflt (show wpAny _ _ (call (Value.ref 112) [Value.ref _]) _ _ _); refine hold ?_)
  k_with "call ref" => (k_dflt (show wpAny _ _ (call (Value.ref 117) [Value.ref _]) _ _ _); refine hold ?_)
  k_with "call ref" => (k_dflt (show wpAny _ _ (call (Value.ref 136) [Value.ref _, _]) _ _ _); refine hold ?_)
  k_with "call ref" => (k_dflt (show wpAny _ _ (call (Value.ref 141) [_, Value.ref _]) _ _ _); refine hold ?_)
  k_with "call ref" => (k_dflt (show wpAny _ _ (call (Value.ref 131) [Value.ref _, _]) _ _ _); refine hold ?_)
  k_with "call ref" => (k_dflt (show wpAny _ _ (call (Value.ref 91) [Value.ref _, _]) _ _ _); refine hold ?_)
  k_with "call builtin:list.count" => refine hold ?_
  k_with "call type:str" => (k_dflt (show wpAny _ _ (call (Value.type "str") [Value.ref _]) _ _ _); refine hold ?_)
  k_with "compareOp NotEq ref ref" => refine hold ?_
  k_with "subscriptTail" => (k_dflt (show wpAny _ _ (subscriptTail _ _ (Value.str _ _) (Value.int _ _)) _ _ _); refine hold ?_)
  k_with "execs cons" => ((with_reducible refine wpAny_execs_cons ?_); try dsimp only)
  k_with "execs nil" => refine wpAny_execs_nil ?_
  k_with "execs cons" => (k_dflt (show wpAny _ _ (execs (Stmt.Assign [Expr.Name (Str.ofString "shown") _] _ _ :: _) _) _ _ _); refine hold ?_)
  k_with "execs cons" => (k_dflt (show wpAny _ _ (execs (Stmt.Assign [Expr.Name (Str.ofString "ends") _] _ _ :: _) _) _ _ _); refine hold ?_)
  k_with "execs cons" => (k_dflt (show wpAny _ _ (execs (Stmt.If _ _ _ _ :: _) _) _ _ _); refine hold ?_)
  unfold lawEnv at next ⊢
  rw [show loopB.drop 2 = _ :: _ from rfl, show lawSc = ⟨_, _, _, _, _⟩ from rfl] at next
  rw [show loopB = _ :: _ from rfl, show lawSc = ⟨_, _, _, _, _⟩ from rfl]
  have F1 := frMap (m' := fun z => if z = Str.ofString "start" then some (.int x tx) else if z = Str.ofString "fronts" then some (.ref Fb) else if z = Str.ofString "starts" then some (.ref Sa) else if z = Str.ofString "rooms" then some (.ref Ra) else if z = Str.ofString "gate" then some (.ref r) else if z = Str.ofString "total" then some (.int c tt) else m z) F (fun z => by
      by_cases q0 : z = Str.ofString "start"
      · rw [if_pos q0, q0, mX]
      · rw [if_neg q0]
        by_cases q1 : z = Str.ofString "fronts"
        · rw [if_pos q1, q1, hm.fronts]
        · rw [if_neg q1]
          by_cases q2 : z = Str.ofString "starts"
          · rw [if_pos q2, q2, hm.starts]
          · rw [if_neg q2]
            by_cases q3 : z = Str.ofString "rooms"
            · rw [if_pos q3, q3, hm.rooms]
            · rw [if_neg q3]
              by_cases q4 : z = Str.ofString "gate"
              · rw [if_pos q4, q4, hm.gate]
              · rw [if_neg q4]
                by_cases q5 : z = Str.ofString "total"
                · rw [if_pos q5, q5, hm.total]
                · rw [if_neg q5])
  clear F
  have next' := hold next
  clear next
  k_steps
  refine Hold.out (wpAny_with_toks (n := N0) (by first | omega | (dsimp only; omega)) (told_t (by k_asm) (by k_asm) (by k_asm) (by k_asm) (by k_asm) (by rfl) hF hW (by rw [hW.len]; omega) hx1 (by rw [hW.len]; omega) (by ktr_room) (by ktr_units) ?_))
  intro lt Da tg vs2 h2 tk2 news2 F3 N3 hs2 hlt hDa hW2 hfr hk2
  dsimp only at hk2
  have hF2 := hs2 _ hF
  have e2 := LA.len
  have e3 := LA.lo
  have e4 := LA.hi
  k_steps
  refine Hold.out (wpAny_with_toks (n := N0) (by first | omega | (dsimp only; omega)) (height_t (by k_asm) (by k_asm) (by k_asm) (by k_asm) (by k_asm) (by rfl) hDa hW2 (by rw [hW2.len]; omega) e3 (by omega) (by ktr_room) (by ktr_units) ?_))
  intro t4 h4 tk4 news4 F4 N4 hs4 hk4
  dsimp only at hk4
  have hF4 := hs4 _ hF2
  k_steps
  refine Hold.out (wpAny_with_toks (n := N0) (by first | omega | (dsimp only; omega)) (height_t (by k_asm) (by k_asm) (by k_asm) (by k_asm) (by k_asm) (by rfl) hF4 hW (by rw [hW.len]; omega) (by omega) (by omega) (by ktr_room) (by ktr_units) ?_))
  intro t5 h5' tk5 news5 F5 N5 hs5 hk5
  dsimp only at hk5
  have e5 := LA.slo
  have e6 := LA.shi
  k_steps
  exact Hold.out (Hold.out next' Da vs2 _ _ _ _ _ news5 (by k_asm) ⟨rfl, rfl, rfl, rfl, rfl⟩ rfl rfl rfl rfl (by k_asm) (fun q hq => hs5 _ (hs4 _ (hs2 _ hq))) (hs5 _ (hs4 _ hDa)) hW2 hfr (by first | omega | (dsimp only; omega)))
end
/-! part PhL -/
theorem Sit.pos {N0 : Nat} {P : Params} {σ : Sta} {gs : List Rm} {γ : Rm} {old : List (Addr × Obj)} {kg : Int} {bs : List Bool} {l : List (Str × Tok)} {news : List (Addr × Obj)} (H : Sit N0 P σ gs γ old kg bs l news) (h : 0 < gs.length) : 1 ≤ N0 := by
  obtain ⟨b, _, t, t', ⟨o1, o2⟩, _, _⟩ := H.room (i := 0) (ρ := gs[0]) (List.getElem?_eq_getElem h)
  omega
section
variable {w : World} {p : Program} {loose : List Str} {mean : ExcName → Option Value} {mg mb : Str → Option Value} {g : Heap} {L fa : Addr} {cd : Value} {s : Shared} {m : Str → Option Value} {Q : Flow → Shared → Prop}
theorem turn_B {N0 : Nat} {Fb Sa Ra Da : Addr} {nR : Nat} {bs bs' : List Bool} {x c G st kg : Int} {tx tt tg ts : Tok} {σ : Sta} {gs : List Rm} {γ : Rm} {l1 l2 : List (Str × Tok)} {old news : List (Addr × Obj)}
    (X : (Mine.hd.heap_39 w.params).In g) (T : Top p loose mean mg mb g) (K : Below callerA g [] g) (CH : CodeHd g 104 100) (hx1 : 1 ≤ x) (hx5 : x ≤ 5) (hg1 : 0 < gs.length) (hg5 : gs.length ≤ 5)
    (F : Fr g L s.heap m) (hm : Nms m Fb Sa Ra γ.r c tt) (mX : m (Str.ofString "start") = some (.int x tx)) (mG : m (Str.ofString "goal") = some (.int G tg)) (mA : m (Str.ofString "after") = some (.ref Da)) (mT : m (Str.ofString "steps") = some (.int st ts)) (N : News g L s.heap news)
    (hS : Stat σ (gs ++ [γ]) old) (H : Sit N0 w.params σ gs γ old kg bs (l1 ++ l2) news) (hl1 : l1.map (·.1) = signs (gateS x)) (hl2 : l2.length ≤ 600) (hRa : (Ra, listOf (gs.map fun ρ => Value.ref ρ.r).toArray nR) ∈ old)
    (hw : walkF 20 bs x 0 = (bs', G, st)) (hG0 : 0 ≤ G) (hG6 : G ≤ 6) (hs0 : 0 ≤ st) (hs20 : st ≤ 20) (hN0 : N0 ≤ s.toks)
    (next : ∀ (h' : Heap) (tk' : Nat) (m' : Str → Option Value) (news' : List (Addr × Obj)), Fr g L h' m' → Nms m' Fb Sa Ra γ.r c tt → m' (Str.ofString "start") = some (.int x tx) → m' (Str.ofString "after") = some (.ref Da) →
      News g L h' news' → Sit N0 w.params σ gs γ old (kg + 1) bs' l2 news' → N0 ≤ tk' → wpAny (model PySem.Challenge.rw_pg0063_01.row.prog w) (callerA.deeper (lawEnv L fa cd)) (execs (loopB.drop 3) (lawEnv L fa cd)) Q (fun _ _ => False) { s with heap := h', toks := tk' }) :
    wpAny (model PySem.Challenge.rw_pg0063_01.row.prog w) (callerA.deeper (lawEnv L fa cd)) (execs (loopB.drop 2) (lawEnv L fa cd)) Q (fun _ _ => False) s := by
  k_with_none
  w_top off
  k_with "call builtin:list.pop" => (k_here; (with_reducible show wpAny _ _ (call (Value.builtin _) [Value.ref _, Value.int 0 _]) _ _ _); k_dflt (refine pop0 (by k_asm) (by k_asm) (by k_upd) (by assumption) ?_); intro _ _ _)
  k_with "truthy ref" => (k_here; k_dflt (refine truthyCons (by k_asm) (by k_mem) (by assumption) ?_); (try rw [if_pos rfl]))
  k_with "call builtin:len" => (k_here; (with_reducible show wpAny _ _ (call (Value.builtin "len") [Value.ref _]) _ _ _); k_dflt (refine lenLed (by k_asm) (by k_mem) (by first | assumption | (simp only [List.length_cons, List.length_nil]; omega)) ?_))
  k_with "eval Name" => (k_here; (with_reducible show wpAny _ _ (eval (Expr.Name _ _) (compEnvC _ _ _ _)) _ _ _); k_dflt (refine LCgL.ld_own (by k_asm) (.tail _ (.head _)) (by assumption) (by assumption) ?_))
  k_with "eval ListComp" => refine hold ?_
  k_with "CompSrc" => refine hold ?_
  k_with "CompK" => refine hold ?_
  k_with "ForK" => refine hold ?_
  k_with "exec For Name Name cons nil" => refine hold ?_
  k_with "call ref" => (k_dflt (show wpAny _ _ (call (Value.ref 42) [Value.ref _]) _ _ _); refine hold ?_)
  k_with "call ref" => (k_dflt (show wpAny _ _ (call (Value.ref 112) [Value.ref _]) _ _ _); refine hold ?_)
  k_with "call ref" => (k_dflt (show wpAny _ _ (call (Value.ref 117) [Value.ref _]) _ _ _); refine hold ?_)
  k_with "call ref" => (k_dflt (show wpAny _ _ (call (Value.ref 136) [Value.ref _, _]) _ _ _); refine hold ?_)
  k_with "call ref" => (k_dflt (show wpAny _ _ (call (Value.ref 141) [_, Value.ref _]) _ _ _); refine hold ?_)
  k_with "call ref" => (k_dflt (show wpAny _ _ (call (Value.ref 131) [Value.ref _, _]) _ _ _); refine hold ?_)
  k_with "call ref" => (k_dflt (show wpAny _ _ (call (Value.ref 91) [Value.ref _, _]) _ _ _); refine hold ?_)
  k_with "call builtin:list.count" => refine hold ?_
  k_with "call type:str" => (k_dflt (show wpAny _ _ (call (Value.type "str") [Value.ref _]) _ _ _); refine hold ?_)
  k_with "compareOp NotEq ref ref" => refine hold ?_
  k_with "subscriptTail" => (k_dflt (show wpAny _ _ (subscriptTail _ _ (Value.str _ _) (Value.int _ _)) _ _ _); refine hold ?_)
  k_with "execs cons" => ((with_reducible refine wpAny_execs_cons ?_); try dsimp only)
  k_with "execs nil" => refine wpAny_execs_nil ?_
  k_with "execs cons" => (k_dflt (show wpAny _ _ (execs (Stmt.Assign [Expr.Name (Str.ofString "shown") _] _ _ :: _) _) _ _ _); refine hold ?_)
  k_with "execs cons" => (k_dflt (show wpAny _ _ (execs (Stmt.Assign [Expr.Name (Str.ofString "ends") _] _ _ :: _) _) _ _ _); refine hold ?_)
  k_with "execs cons" => (k_dflt (show wpAny _ _ (execs (Stmt.Assign _ _ _ :: _) _) _ _ _); refine hold ?_)
  k_with "ite" => first | refine iteT (by with_reducible assumption) ?_ | refine iteF (by with_reducible assumption) ?_
  unfold lawEnv at next ⊢
  rw [show loopB.drop 3 = _ :: _ from rfl, show lawSc = ⟨_, _, _, _, _⟩ from rfl] at next
  rw [show loopB.drop 2 = _ :: _ from rfl, show lawSc = ⟨_, _, _, _, _⟩ from rfl]
  have F1 := frMap (m' := fun z => if z = Str.ofString "start" then some (.int x tx) else if z = Str.ofString "goal" then some (.int G tg) else if z = Str.ofString "after" then some (.ref Da) else if z = Str.ofString "steps" then some (.int st ts) else if z = Str.ofString "fronts" then some (.ref Fb) else if z = Str.ofString "starts" then some (.ref Sa) else if z = Str.ofString "rooms" then some (.ref Ra) else if z = Str.ofString "gate" then some (.ref γ.r) else if z = Str.ofString "total" then some (.int c tt) else m z) F (fun z => by
      by_cases q0 : z = Str.ofString "start"
      · rw [if_pos q0, q0, mX]
      · rw [if_neg q0]
        by_cases q1 : z = Str.ofString "goal"
        · rw [if_pos q1, q1, mG]
        · rw [if_neg q1]
          by_cases q2 : z = Str.ofString "after"
          · rw [if_pos q2, q2, mA]
          · rw [if_neg q2]
            by_cases q3 : z = Str.ofString "steps"
            · rw [if_pos q3, q3, mT]
            · rw [if_neg q3]
              by_cases q4 : z = Str.ofString "fronts"
              · rw [if_pos q4, q4, hm.fronts]
              · rw [if_neg q4]
                by_cases q5 : z = Str.ofString "starts"
                · rw [if_pos q5, q5, hm.starts]
                · rw [if_neg q5]
                  by_cases q6 : z = Str.ofString "rooms"
                  · rw [if_pos q6, q6, hm.rooms]
                  · rw [if_neg q6]
                    by_cases q7 : z = Str.ofString "gate"
                    · rw [if_pos q7, q7, hm.gate]
                    · rw [if_neg q7]
                      by_cases q8 : z = Str.ofString "total"
                      · rw [if_pos q8, q8, hm.total]
                      · rw [if_neg q8])
  clear F
  have next' := hold next
  clear next
  have hN1 := H.pos hg1
  have hne1 : (letterS x != letterS x) = false := by simp
  have hne2 : ((pairD G st).shown != (pairD G st).shown) = false := by simp
  have hmr := H.gate.hr
  obtain ⟨tl, md⟩ := H.gate.hd
  have hRa1 := H.old _ hRa
  have Nh := Hold.out N
  have hpl : γ.pb ≠ σ.lf := hS.lf γ (List.mem_append_right _ (.head _))
  k_steps
  refine Hold.out (wpAny_with_toks (n := N0) (by first | omega | (dsimp only; omega)) (gate_reads (prog := PySem.Challenge.rw_pg0063_01.row.prog) (w := w) (p := p) (loose := loose) (mean := mean) (mg := mg) (mb := mb) (base := g) (σ := σ) (ρ := γ) (k := kg) ⟨hx1, hx5⟩ hl2 hl1 _ _ _ _ _ _ _ _ _ _ _ _ _ _ _ _ _ (by k_asm) (by k_asm) (by k_asm) (by k_asm) (by k_asm) (by rfl) CH H.sta H.gate H.left hpl (by first | omega | (dsimp only; omega)) (by ktr_room) (by ktr_units) ?_))
  intro t2 h2 tk2 news2 F2 N2 K2 S2 R2 L2 ho2 hk2
  dsimp only at hk2
  have H2 := H.gateTurn (id Nh : News _ _ _ _) hS K2 S2 R2 L2
  have hRa2 := H2.old _ hRa
  have N2h := Hold.out N2
  k_steps
  refine Hold.out (letterLed hx1 hx5 ?_)
  k_steps
  refine Hold.out (wpAny_with_toks (n := N0) (by first | omega | (dsimp only; omega)) (walk_t (by k_asm) (by k_asm) (by k_asm) (by k_asm) (by k_asm) (by rfl) H2.rooms hRa2 (by omega) (fun i j ρ ρ' e1 e2 hij => hS.dst i j ρ ρ' (getLast? e1) (getLast? e2) hij) (fun ρ hρ => Ne.symm ((hS.off _ hRa).2 ρ (List.mem_append_left _ hρ)).2) (by ktr_room) (by ktr_units) ?_))
  intro la ta tb h3 tk3 news3 F3 N3 K3 R3 hla hk3
  dsimp only at hk3
  rw [hw] at R3 hla
  have H3 := H2.walkTurn (id N2h : News _ _ _ _) hS K3 R3
  k_steps
  refine Hold.out (wpAny_with_toks (n := N0) (by first | omega | (dsimp only; omega)) (strPair (by k_asm) (by k_asm) hla hG0 hG6 hs0 hs20 (by rfl) (by ktr_units) ?_))
  intro h4 t4 tk4 F4 N4 hk4
  dsimp only at hk4
  k_steps
  refine Hold.out (wpAny_with_toks (n := N0) (by first | omega | (dsimp only; omega)) (strPair (by k_asm) (by k_asm) (.head _) hG0 hG6 hs0 hs20 (by rfl) (by ktr_units) ?_))
  intro h5 t5 tk5 F5 N5 hk5
  dsimp only at hk5
  k_steps
  exact Hold.out (Hold.out next' _ _ _ _ (by k_asm) ⟨rfl, rfl, rfl, rfl, rfl⟩ rfl rfl (by k_asm) (H3.mono fun p hp => .tail _ hp) (by first | omega | (dsimp only; omega)))
end
/-! part PhM -/
section
variable {w : World} {p : Program} {loose : List Str} {mean : ExcName → Option Value} {mg mb : Str → Option Value} {g : Heap} {L fa : Addr} {cd : Value} {s : Shared} {m : Str → Option Value} {Q : Flow → Shared → Prop}
theorem turn_C {N0 n : Nat} {tn : Tok} {oS : Obj} {Fb Sa Ra Da : Addr} {nR : Nat} {bs : List Bool} {x c kg : Int} {tx tt : Tok} {σ : Sta} {gs : List Rm} {γ : Rm} {l : List (Str × Tok)} {old news : List (Addr × Obj)}
    (X : (Mine.hd.heap_39 w.params).In g) (T : Top p loose mean mg mb g) (K : Below callerA g [] g) (hx1 : 1 ≤ x) (hx5 : x ≤ 5) (hg5 : gs.length ≤ 5) (hc0 : 0 ≤ c) (hc5 : c ≤ 5) (hn5 : n ≤ 5)
    (F : Fr g L s.heap m) (hm : Nms m Fb Sa Ra γ.r c tt) (mX : m (Str.ofString "start") = some (.int x tx)) (mA : m (Str.ofString "after") = some (.ref Da)) (N : News g L s.heap news)
    (hS : Stat σ (gs ++ [γ]) old) (H : Sit N0 w.params σ gs γ old kg bs l news) (hRa : (Ra, listOf (gs.map fun ρ => Value.ref ρ.r).toArray nR) ∈ old) (hoS : (L + 1, oS) ∈ old) (dS : oS.data = .cell (some (.int (n : Int) tn)))
    (hN0 : N0 ≤ s.toks)
    (next : ∀ (Ea : Addr) (ys : List Value) (t' : Tok) (h' : Heap) (tk' : Nat) (m' : Str → Option Value) (news' : List (Addr × Obj)), Fr g L h' m' → Nms m' Da Sa Ra γ.r (Int.fmod (c + x) ((n : Int) + 1)) t' → m' (Str.ofString "shown") = some (.ref Ea) →
      News g L h' news' → Sit N0 w.params σ gs γ old kg bs l news' → (Ea, listOf ys.toArray ys.length) ∈ news' → LinesT N0 gs ys bs news' → N0 ≤ tk' → wpAny (model PySem.Challenge.rw_pg0063_01.row.prog w) (callerA.deeper (lawEnv L fa cd)) (execs (loopB.drop 5) (lawEnv L fa cd)) Q (fun _ _ => False) { s with heap := h', toks := tk' }) :
    wpAny (model PySem.Challenge.rw_pg0063_01.row.prog w) (callerA.deeper (lawEnv L fa cd)) (execs (loopB.drop 3) (lawEnv L fa cd)) Q (fun _ _ => False) s := by
  k_with_none
  w_top off
  k_with "call builtin:list.pop" => (k_here; (with_reducible show wpAny _ _ (call (Value.builtin _) [Value.ref _, Value.int 0 _]) _ _ _); k_dflt (refine pop0 (by k_asm) (by k_asm) (by k_upd) (by assumption) ?_); intro _ _ _)
  k_with "truthy ref" => (k_here; k_dflt (refine truthyCons (by k_asm) (by k_mem) (by assumption) ?_); (try rw [if_pos rfl]))
  k_with "call builtin:len" => (k_here; (with_reducible show wpAny _ _ (call (Value.builtin "len") [Value.ref _]) _ _ _); k_dflt (refine lenLed (by k_asm) (by k_mem) (by first | assumption | (simp only [List.length_cons, List.length_nil]; omega)) ?_))
  k_with "eval Name" => (k_here; (with_reducible show wpAny _ _ (eval (Expr.Name _ _) (compEnvC _ _ _ _)) _ _ _); k_dflt (refine LCgL.ld_own (by k_asm) (.tail _ (.head _)) (by assumption) (by assumption) ?_))
  k_with "eval ListComp" => refine hold ?_
  k_with "CompSrc" => refine hold ?_
  k_with "CompK" => refine hold ?_
  k_with "ForK" => refine hold ?_
  k_with "exec For Name Name cons nil" => refine hold ?_
  k_with "call ref" => (k_dflt (show wpAny _ _ (call (Value.ref 42) [Value.ref _]) _ _ _); refine hold ?_)
  k_with "call ref" => (k_dflt (show wpAny _ _ (call (Value.ref 112) [Value.ref _]) _ _ _); refine hold ?_)
  k_with "call ref" => (k_dflt (show wpAny _ _ (call (Value.ref 117) [Value.ref _]) _ _ _); refine hold ?_)
  k_with "call ref" => (k_dflt (show wpAny _ _ (call (Value.ref 136) [Value.ref _, _]) _ _ _); refine hold ?_)
  k_with "call ref" => (k_dflt (show wpAny _ _ (call (Value.ref 141) [_, Value.ref _]) _ _ _); refine hold ?_)
  k_with "call ref" => (k_dflt (show wpAny _ _ (call (Value.ref 131) [Value.ref _, _]) _ _ _); refine hold ?_)
  k_with "call ref" => (k_dflt (show wpAny _ _ (call (Value.ref 91) [Value.ref _, _]) _ _ _); refine hold ?_)
  k_with "call builtin:list.count" => refine hold ?_
  k_with "call type:str" => (k_dflt (show wpAny _ _ (call (Value.type "str") [Value.ref _]) _ _ _); refine hold ?_)
  k_with "compareOp NotEq ref ref" => refine hold ?_
  k_with "subscriptTail" => (k_dflt (show wpAny _ _ (subscriptTail _ _ (Value.str _ _) (Value.int _ _)) _ _ _); refine hold ?_)
  k_with "execs cons" => ((with_reducible refine wpAny_execs_cons ?_); try dsimp only)
  k_with "execs nil" => refine wpAny_execs_nil ?_
  k_with "execs cons" => (k_dflt (show wpAny _ _ (execs (Stmt.Assign [Expr.Name (Str.ofString "shown") _] _ _ :: _) _) _ _ _); refine hold ?_)
  k_with "execs cons" => (k_dflt (show wpAny _ _ (execs (Stmt.If _ _ _ _ :: _) _) _ _ _); refine hold ?_)
  unfold lawEnv at next ⊢
  rw [show loopB.drop 5 = _ :: _ from rfl, show lawSc = ⟨_, _, _, _, _⟩ from rfl] at next
  rw [show loopB.drop 3 = _ :: _ from rfl, show lawSc = ⟨_, _, _, _, _⟩ from rfl]
  have F1 := frMap (m' := fun z => if z = Str.ofString "start" then some (.int x tx) else if z = Str.ofString "after" then some (.ref Da) else if z = Str.ofString "fronts" then some (.ref Fb) else if z = Str.ofString "starts" then some (.ref Sa) else if z = Str.ofString "rooms" then some (.ref Ra) else if z = Str.ofString "gate" then some (.ref γ.r) else if z = Str.ofString "total" then some (.int c tt) else m z) F (fun z => by
      by_cases q0 : z = Str.ofString "start"
      · rw [if_pos q0, q0, mX]
      · rw [if_neg q0]
        by_cases q1 : z = Str.ofString "after"
        · rw [if_pos q1, q1, mA]
        · rw [if_neg q1]
          by_cases q2 : z = Str.ofString "fronts"
          · rw [if_pos q2, q2, hm.fronts]
          · rw [if_neg q2]
            by_cases q3 : z = Str.ofString "starts"
            · rw [if_pos q3, q3, hm.starts]
            · rw [if_neg q3]
              by_cases q4 : z = Str.ofString "rooms"
              · rw [if_pos q4, q4, hm.rooms]
              · rw [if_neg q4]
                by_cases q5 : z = Str.ofString "gate"
                · rw [if_pos q5, q5, hm.gate]
                · rw [if_neg q5]
                  by_cases q6 : z = Str.ofString "total"
                  · rw [if_pos q6, q6, hm.total]
                  · rw [if_neg q6])
  clear F
  have next' := hold next
  clear next
  have hcell := H.old _ hoS
  have hn0 : (n : Int) + 1 ≠ 0 := by omega
  have b1 := Int.fmod_lt_of_pos (c + x) (show (0 : Int) < (n : Int) + 1 by omega)
  have b2 := Int.fmod_nonneg_of_pos (c + x) (show (0 : Int) < (n : Int) + 1 by omega)
  k_steps
  refine Hold.out (wpAny_execs_cons (wpAny_with_toks (n := N0) (by first | omega | (dsimp only; omega)) ?_))
  k_steps
  refine Hold.out (LCg.CompSrc.ledger rfl (by k_asm) (by k_asm) (.tail _ (H.old _ hRa)) (by rw [List.size_toArray, List.length_map, sizeLine_eq]; omega) (fun g1 => ?_))
  rw [List.size_toArray, List.length_map]
  refine compInv (n := gs.length) (fun i ys nw => Sit N0 w.params σ gs γ old kg bs l nw ∧ LinesT N0 gs ys (bs.take i) nw) ?_ ?_ gs.length 0 [] _ (by omega) ⟨H.mono fun p hp => .tail _ hp, ⟨by simp, fun i y b hy => by simp at hy⟩⟩
  · intro i v ys nw I oI C oC D m₂ h tk E' hi hv hJ hC hx F9 N9 off9 ne9
    obtain ⟨HS, HL⟩ := hJ
    rw [List.getElem?_toArray, List.getElem?_map] at hv
    obtain ⟨ρ, hgi, rfl⟩ := Option.map_eq_some_iff.mp hv
    obtain ⟨b, hbi, RB⟩ := HS.room hgi
    have hmem : ρ ∈ gs := List.mem_of_getElem? hgi
    have RBc := RB
    obtain ⟨t, t', ho, ho', Rρ⟩ := RBc
    have hmr := Rρ.hr
    have N9h := Hold.out N9
    k_steps
    refine Hold.out (line_k (by k_asm) (by k_asm) (by k_asm) (by k_asm) (by k_asm) (by rfl) (Rρ.mono fun p hp => .tail _ (.tail _ (.tail _ hp))) (by ktr_room) (by ktr_units) ?_)
    intro a h' tk' news' F' N' K' R' hm' hlt
    obtain ⟨np, mp⟩ := Rρ.hpb
    have offI := off9.mem
    have z3 := offI _ mp
    have hKo := keepOff3 K' off9
    have hno := off3_not off9
    have hm2 := mem_offs hm' (three (Ne.symm (Nat.ne_of_lt (hlt _ (.head _)))) (Ne.symm (Nat.ne_of_lt (hlt _ (.tail _ (.head _))))) (Ne.symm (Nat.ne_of_lt (hlt _ (.tail _ (.tail _ (.head _)))))))
    have nmem : ∀ {x : Addr}, ρ.pb ≠ x → x ∉ [ρ.pb] := fun h q => h (List.mem_singleton.mp q).symm
    have htk' : bs.take (i + 1) = bs.take i ++ [b] := by rw [List.take_add_one, hbi]; rfl
    have HS' := HS.lineTurn (fun p hp => (id N9h : News _ _ _ _) p (.tail _ (.tail _ (.tail _ hp)))) hS hgi hbi hKo ⟨t, t', ho, ho', Rρ.offs R' hno⟩
    refine LCg.CompEnd.intro F' (newsOff3 N' K' (nmem z3.1) (nmem z3.2.1) (nmem z3.2.2)) (offs [I, C, D] news') (fun p hp => hp) offs_off3 (.inr ⟨_, HS'.old _ hRa, rfl, _, rfl⟩) ⟨HS', ?_⟩
    rw [htk']
    refine (HL.keep hmem hKo).snoc hm2 ho fun ρ' hρ' => ?_
    obtain ⟨j, hj⟩ := List.getElem?_of_mem hρ'
    obtain ⟨b', _, u, u', _, _, R0⟩ := HS.room hj
    obtain ⟨np', mp'⟩ := R0.hpb
    exact Ne.symm (Nat.ne_of_lt (hlt _ (.tail _ (.tail _ (.tail _ mp')))))
  · intro ys nw hJ
    obtain ⟨HS, HL⟩ := hJ
    rw [HS.rooms.len, List.take_length] at HL
    unfold LCg.FinA
    intro D h tk F9 N9 off9 hk9
    dsimp only at hk9
    k_steps
    exact Hold.out (Hold.out next' D ys _ _ _ _ _ (by k_asm) ⟨rfl, rfl, rfl, rfl, rfl⟩ rfl (by k_asm) (HS.mono fun p hp => .tail _ hp) (.head _) (HL.mono fun p hp => .tail _ hp) (by first | omega | (dsimp only; omega)))
end
/-! part PhN -/
section
variable {w : World} {p : Program} {loose : List Str} {mean : ExcName → Option Value} {mg mb : Str → Option Value} {g : Heap} {L fa : Addr} {cd : Value} {s : Shared} {m : Str → Option Value} {Q : Flow → Shared → Prop}
theorem turn_D {N0 : Nat} {Fb Sa Ra Ea : Addr} {nb : Nat} {vs ys : List Value} {bs : List Bool} {c kg : Int} {tt : Tok} {σ : Sta} {gs : List Rm} {γ : Rm} {l : List (Str × Tok)} {old news : List (Addr × Obj)}
    (X : (Mine.hd.heap_39 w.params).In g) (T : Top p loose mean mg mb g) (K : Below callerA g [] g) (h2 : 2 ≤ bs.length) (h5 : bs.length ≤ 5) (hc : c = ((bs.count true : Nat) : Int))
    (F : Fr g L s.heap m) (hm : Nms m Fb Sa Ra γ.r c tt) (mE : m (Str.ofString "shown") = some (.ref Ea)) (N : News g L s.heap news)
    (H : Sit N0 w.params σ gs γ old kg bs l news) (hF : (Fb, listOf vs.toArray nb) ∈ news) (hW : Ws vs bs) (hE : (Ea, listOf ys.toArray ys.length) ∈ news) (HL : LinesT N0 gs ys bs news) (hN0 : N0 ≤ s.toks)
    (next : ∀ (h' : Heap) (tk' : Nat) (m' : Str → Option Value) (news' : List (Addr × Obj)), Fr g L h' m' → Nms m' Fb Sa Ra γ.r c tt → News g L h' news' → (∀ q ∈ news, q ∈ news') → N0 ≤ tk' → Q .next { s with heap := h', toks := tk' }) :
    wpAny (model PySem.Challenge.rw_pg0063_01.row.prog w) (callerA.deeper (lawEnv L fa cd)) (execs (loopB.drop 5) (lawEnv L fa cd)) Q (fun _ _ => False) s := by
  k_with_none
  w_top off
  k_with "call builtin:list.pop" => (k_here; (with_reducible show wpAny _ _ (call (Value.builtin _) [Value.ref _, Value.int 0 _]) _ _ _); k_dflt (refine pop0 (by k_asm) (by k_asm) (by k_upd) (by assumption) ?_); intro _ _ _)
  k_with "truthy ref" => (k_here; k_dflt (refine truthyCons (by k_asm) (by k_mem) (by assumption) ?_); (try rw [if_pos rfl]))
  k_with "call builtin:len" => (k_here; (with_reducible show wpAny _ _ (call (Value.builtin "len") [Value.ref _]) _ _ _); k_dflt (refine lenLed (by k_asm) (by k_mem) (by first | assumption | (simp only [List.length_cons, List.length_nil]; omega)) ?_))
  k_with "eval Name" => (k_here; (with_reducible show wpAny _ _ (eval (Expr.Name _ _) (compEnvC _ _ _ _)) _ _ _); k_dflt (refine LCgL.ld_own (by k_asm) (.tail _ (.head _)) (by assumption) (by assumption) ?_))
  k_with "eval ListComp" => refine hold ?_
  k_with "CompSrc" => refine hold ?_
  k_with "CompK" => refine hold ?_
  k_with "ForK" => refine hold ?_
  k_with "exec For Name Name cons nil" => refine hold ?_
  k_with "call ref" => (k_dflt (show wpAny _ _ (call (Value.ref 42) [Value.ref _]) _ _ _); refine hold ?_)
  k_with "call ref" => (k_dflt (show wpAny _ _ (call (Value.ref 112) [Value.ref _]) _ _ _); refine hold ?_)
  k_with "call ref" => (k_dflt (show wpAny _ _ (call (Value.ref 117) [Value.ref _]) _ _ _); refine hold ?_)
  k_with "call ref" => (k_dflt (show wpAny _ _ (call (Value.ref 136) [Value.ref _, _]) _ _ _); refine hold ?_)
  k_with "call ref" => (k_dflt (show wpAny _ _ (call (Value.ref 141) [_, Value.ref _]) _ _ _); refine hold ?_)
  k_with "call ref" => (k_dflt (show wpAny _ _ (call (Value.ref 131) [Value.ref _, _]) _ _ _); refine hold ?_)
  k_with "call ref" => (k_dflt (show wpAny _ _ (call (Value.ref 91) [Value.ref _, _]) _ _ _); refine hold ?_)
  k_with "call builtin:list.count" => refine hold ?_
  k_with "call type:str" => (k_dflt (show wpAny _ _ (call (Value.type "str") [Value.ref _]) _ _ _); refine hold ?_)
  k_with "compareOp NotEq ref ref" => refine hold ?_
  k_with "subscriptTail" => (k_dflt (show wpAny _ _ (subscriptTail _ _ (Value.str _ _) (Value.int _ _)) _ _ _); refine hold ?_)
  k_with "execs cons" => ((with_reducible refine wpAny_execs_cons ?_); try dsimp only)
  k_with "execs nil" => refine wpAny_execs_nil ?_
  k_with "execs cons" => (k_dflt (show wpAny _ _ (execs (Stmt.Assign [Expr.Name (Str.ofString "shown") _] _ _ :: _) _) _ _ _); refine hold ?_)
  k_with "ite" => first | refine iteT (by with_reducible assumption) ?_ | refine iteF (by with_reducible assumption) ?_
  unfold lawEnv
  rw [show loopB.drop 5 = _ :: _ from rfl, show lawSc = ⟨_, _, _, _, _⟩ from rfl]
  have F1 := frMap (m' := fun z => if z = Str.ofString "shown" then some (.ref Ea) else if z = Str.ofString "fronts" then some (.ref Fb) else if z = Str.ofString "starts" then some (.ref Sa) else if z = Str.ofString "rooms" then some (.ref Ra) else if z = Str.ofString "gate" then some (.ref γ.r) else if z = Str.ofString "total" then some (.int c tt) else m z) F (fun z => by
      by_cases q0 : z = Str.ofString "shown"
      · rw [if_pos q0, q0, mE]
      · rw [if_neg q0]
        by_cases q1 : z = Str.ofString "fronts"
        · rw [if_pos q1, q1, hm.fronts]
        · rw [if_neg q1]
          by_cases q2 : z = Str.ofString "starts"
          · rw [if_pos q2, q2, hm.starts]
          · rw [if_neg q2]
            by_cases q3 : z = Str.ofString "rooms"
            · rw [if_pos q3, q3, hm.rooms]
            · rw [if_neg q3]
              by_cases q4 : z = Str.ofString "gate"
              · rw [if_pos q4, q4, hm.gate]
              · rw [if_neg q4]
                by_cases q5 : z = Str.ofString "total"
                · rw [if_pos q5, q5, hm.total]
                · rw [if_neg q5])
  clear F
  subst hc
  have hne1 : (Str.ofString (toString ((bs.count true : Nat) : Int)) != Str.ofString (toString ((bs.count true : Nat) : Int))) = false := by simp
  have next' := hold next
  clear next
  have hcb : bs.count true ≤ 5 := Nat.le_trans List.count_le_length h5
  k_steps
  refine Hold.out (wpAny_with_toks (n := N0) (by first | omega | (dsimp only; omega)) (lines_t (by k_asm) (by k_asm) (by k_asm) (by k_asm) (by k_asm) (by rfl) hF hW (by rw [hW.len]; omega) (by ktr_room) (by ktr_units) ?_))
  intro D2 ys2 h2' tk2 nw2 F2 N2 hsub hLn2 hoff2 htk2
  dsimp only at htk2
  have hE2 := hsub _ hE
  k_steps
  refine Hold.out (lines_ne (n := ys.length) (n' := ys2.length) (by k_asm) (.tail _ hE2) (.head _) (HL.lines.mono fun p hp => .tail _ (hsub _ hp)) (hLn2.mono fun p hp => .tail _ hp) (by omega) (by omega) (by ktr_units) ?_)
  k_steps
  refine Hold.out ?_
  refine ListComp_KF F2 (by rfl) (by decide) (by rfl) (by decide) (by rfl) ?_
  k_steps
  refine Hold.out ⟨Ea, ys.toArray, ys.length, _, fun i zs nw tk => (∀ q ∈ nw2, q ∈ nw) ∧ WsT N0 zs (bs.take i) ∧ N0 ≤ tk, rfl, by rfl, by k_asm, by k_asm, fun i ys nw tk h => h.1 _ hE2, by rw [List.size_toArray, HL.len, sizeLine_eq]; omega, fun i ys nw tk tk' hle h => ⟨h.1, h.2.1, Nat.le_trans h.2.2 hle⟩, ⟨fun _ h => .tail _ h, ⟨by simp, fun i y b hy => by simp at hy⟩, by first | omega | (dsimp only; omega)⟩, ?_, ?_⟩
  · intro i v zs nw I oI C oC D m₂ h tk E' hv htk1 hJ hcI hC hx F9 N9 off9 ne9
    obtain ⟨HS, HZ, hk⟩ := hJ
    rw [List.getElem?_toArray] at hv
    have hib : i < bs.length := HL.len ▸ (List.getElem?_eq_some_iff.mp hv).1
    have hbi : bs[i]? = some bs[i] := List.getElem?_eq_getElem hib
    generalize bs[i] = b at hbi
    obtain ⟨lx, nx, t0, t1, rfl, hmx, ho, hp⟩ := HL.all i v b hv hbi
    have hmx2 := HS _ (hsub _ hmx)
    have htk' : bs.take (i + 1) = bs.take i ++ [b] := by rw [List.take_add_one, hbi]; rfl
    k_steps
    exact CompKEnd.intro nw (by k_asm) (by k_asm) (by assumption) ⟨HS, by rw [htk']; exact HZ.snoc ho, by first | omega | (dsimp only; omega)⟩
  · intro zs nw D h tk hJ F9 N9 off9
    rw [List.size_toArray, HL.len, List.take_length] at hJ
    obtain ⟨HS, HZ, hk⟩ := hJ
    k_steps
    refine Hold.out (wpAny_with_toks (n := N0) (by first | omega | (dsimp only; omega)) (count_t (by k_asm) (by k_asm) (by k_asm) (by k_asm) (by k_asm) (by rfl) (.head _) HZ (by first | omega | (dsimp only; omega)) (by ktr_room) (by ktr_units) ?_))
    intro t4 h4 tk4 nw4 F4 N4 hs4 hk4
    dsimp only at hk4
    k_steps
    exact Hold.out next' _ _ _ nw4 (by k_asm) ⟨rfl, rfl, rfl, rfl, rfl⟩ (by k_asm) (fun q hq => hs4 _ (.tail _ (HS _ (hsub _ hq)))) (by first | omega | (dsimp only; omega))
end
/-! part PhO -/
structure A12 (p1 p2 p3 p4 p5 p6 p7 p8 p9 p10 p11 p12 : Prop) : Prop where
  i1 : p1
  i2 : p2
  i3 : p3
  i4 : p4
  i5 : p5
  i6 : p6
  i7 : p7
  i8 : p8
  i9 : p9
  i10 : p10
  i11 : p11
  i12 : p12
/-- what holds at the head of the loop's turn i -/
def LoopJ (N0 : Nat) (P : Params) (σ : Sta) (gs : List Rm) (γ : Rm) (old : List (Addr × Obj)) (n : Nat) (ss : List Int) (Sa Ra : Addr) (i : Nat) (m₁ : Str → Option Value) (nw : List (Addr × Obj)) (tk : Nat) : Prop :=
  ∃ (bs : List Bool) (Fb : Addr) (vs : List Value) (nb : Nat) (tt : Tok) (l : List (Str × Tok)), A12 (bs.length = n) (m₁ (Str.ofString "fronts") = some (.ref Fb)) (m₁ (Str.ofString "starts") = some (.ref Sa)) (m₁ (Str.ofString "rooms") = some (.ref Ra)) (m₁ (Str.ofString "gate") = some (.ref γ.r)) (m₁ (Str.ofString "total") = some (.int ((bs.count true : Nat) : Int) tt)) (Ws vs bs) (Stat σ (gs ++ [γ]) ((Fb, listOf vs.toArray nb) :: old)) (Sit N0 P σ gs γ ((Fb, listOf vs.toArray nb) :: old) (1 + (i : Int)) bs l nw) (l.map (·.1) = (ss.drop i).flatMap (fun x => signs (gateS x))) (l.length ≤ 600) (N0 ≤ tk)
theorem LoopJ.mono {N0 : Nat} {P : Params} {σ : Sta} {gs : List Rm} {γ : Rm} {old : List (Addr × Obj)} {n : Nat} {ss : List Int} {Sa Ra : Addr} {i : Nat} {m₁ : Str → Option Value} {nw : List (Addr × Obj)} {tk tk' : Nat} (h : LoopJ N0 P σ gs γ old n ss Sa Ra i m₁ nw tk) (hle : tk ≤ tk') : LoopJ N0 P σ gs γ old n ss Sa Ra i m₁ nw tk' := by
  obtain ⟨bs, Fb, vs, nb, tt, l, a1, a2, a3, a4, a5, a6, a7, a8, a9, a10, a11, a12⟩ := h
  exact ⟨bs, Fb, vs, nb, tt, l, a1, a2, a3, a4, a5, a6, a7, a8, a9, a10, a11, Nat.le_trans a12 hle⟩
theorem LoopJ.oldIn {N0 : Nat} {P : Params} {σ : Sta} {gs : List Rm} {γ : Rm} {old : List (Addr × Obj)} {n : Nat} {ss : List Int} {Sa Ra : Addr} {i : Nat} {m₁ : Str → Option Value} {nw : List (Addr × Obj)} {tk : Nat} (h : LoopJ N0 P σ gs γ old n ss Sa Ra i m₁ nw tk) : ∀ p ∈ old, p ∈ nw := by
  obtain ⟨bs, Fb, vs, nb, tt, l, h⟩ := h
  exact fun p hp => h.i9.old _ (.tail _ hp)
section
variable {w : World} {p : Program} {loose : List Str} {mean : ExcName → Option Value} {mg mb : Str → Option Value} {g : Heap} {L fa : Addr} {cd : Value} {s : Shared} {m : Str → Option Value} {Q : Flow → Shared → Prop}
theorem law_G {N0 n : Nat} {tn : Tok} {oS : Obj} {Fa Sa Ra : Addr} {vF vS : List Value} {nF nS nR : Nat} {bs : List Bool} {ss : List Int} {σ : Sta} {gs : List Rm} {γ : Rm} {l : List (Str × Tok)} {old news : List (Addr × Obj)}
    (X : (Mine.hd.heap_39 w.params).In g) (T : Top p loose mean mg mb g) (K : Below callerA g [] g) (CH : CodeHd g 104 100) (hn2 : 2 ≤ n) (hn5 : n ≤ 5) (hbl : bs.length = n) (hgl : gs.length = n) (hsl : ss.length ≤ 11) (hss : ∀ x ∈ ss, 1 ≤ x ∧ x ≤ (n : Int))
    (F : Fr g L s.heap m) (mF : m (Str.ofString "fronts") = some (.ref Fa)) (mS : m (Str.ofString "starts") = some (.ref Sa)) (mR : m (Str.ofString "rooms") = some (.ref Ra)) (mG : m (Str.ofString "gate") = some (.ref γ.r)) (N : News g L s.heap news)
    (hF : (Fa, listOf vF.toArray nF) ∈ old) (hW : Ws vF bs) (hRa : (Ra, listOf (gs.map fun ρ => Value.ref ρ.r).toArray nR) ∈ old) (hSa : (Sa, listOf vS.toArray nS) ∈ old) (hIs : IntsAre vS ss) (hoS : (L + 1, oS) ∈ old) (dS : oS.data = .cell (some (.int (n : Int) tn)))
    (hS : Stat σ (gs ++ [γ]) old) (hSit : Sit N0 w.params σ gs γ old 1 bs l news) (hN0 : N0 ≤ s.toks) (hl : l.map (·.1) = ss.flatMap (fun x => signs (gateS x))) (hll : l.length ≤ 600)
    (next : ∀ (bs' : List Bool) (h' : Heap) (tk' : Nat) (m' : Str → Option Value) (news' : List (Addr × Obj)), Fr g L h' m' → m' (Str.ofString "starts") = some (.ref Sa) → m' (Str.ofString "rooms") = some (.ref Ra) → m' (Str.ofString "gate") = some (.ref γ.r) → News g L h' news' →
      Sit N0 w.params σ gs γ old (1 + (ss.length : Int)) bs' [] news' → N0 ≤ tk' → wpAny (model PySem.Challenge.rw_pg0063_01.row.prog w) (callerA.deeper (lawEnv L fa cd)) (execs (lawB.drop 10) (lawEnv L fa cd)) Q (fun _ _ => False) { s with heap := h', toks := tk' }) :
    wpAny (model PySem.Challenge.rw_pg0063_01.row.prog w) (callerA.deeper (lawEnv L fa cd)) (execs (lawB.drop 8) (lawEnv L fa cd)) Q (fun _ _ => False) s := by
  k_with_none
  w_top off
  k_with "call builtin:list.pop" => (k_here; (with_reducible show wpAny _ _ (call (Value.builtin _) [Value.ref _, Value.int 0 _]) _ _ _); k_dflt (refine pop0 (by k_asm) (by k_asm) (by k_upd) (by assumption) ?_); intro _ _ _)
  k_with "truthy ref" => (k_here; k_dflt (refine truthyCons (by k_asm) (by k_mem) (by assumption) ?_); (try rw [if_pos rfl]))
  k_with "call builtin:len" => (k_here; (with_reducible show wpAny _ _ (call (Value.builtin "len") [Value.ref _]) _ _ _); k_dflt (refine lenLed (by k_asm) (by k_mem) (by first | assumption | (simp only [List.length_cons, List.length_nil]; omega)) ?_))
  k_with "eval Name" => (k_here; (with_reducible show wpAny _ _ (eval (Expr.Name _ _) (compEnvC _ _ _ _)) _ _ _); k_dflt (refine LCgL.ld_own (by k_asm) (.tail _ (.head _)) (by assumption) (by assumption) ?_))
  k_with "eval ListComp" => refine hold ?_
  k_with "CompSrc" => refine hold ?_
  k_with "CompK" => refine hold ?_
  k_with "ForK" => refine hold ?_
  k_with "exec For Name Name cons nil" => refine hold ?_
  k_with "call ref" => (k_dflt (show wpAny _ _ (call (Value.ref 42) [Value.ref _]) _ _ _); refine hold ?_)
  k_with "call ref" => (k_dflt (show wpAny _ _ (call (Value.ref 112) [Value.ref _]) _ _ _); refine hold ?_)
  k_with "call ref" => (k_dflt (show wpAny _ _ (call (Value.ref 117) [Value.ref _]) _ _ _); refine hold ?_)
  k_with "call ref" => (k_dflt (show wpAny _ _ (call (Value.ref 136) [Value.ref _, _]) _ _ _); refine hold ?_)
  k_with "call ref" => (k_dflt (show wpAny _ _ (call (Value.ref 141) [_, Value.ref _]) _ _ _); refine hold ?_)
  k_with "call ref" => (k_dflt (show wpAny _ _ (call (Value.ref 131) [Value.ref _, _]) _ _ _); refine hold ?_)
  k_with "call ref" => (k_dflt (show wpAny _ _ (call (Value.ref 91) [Value.ref _, _]) _ _ _); refine hold ?_)
  k_with "call builtin:list.count" => refine hold ?_
  k_with "call type:str" => (k_dflt (show wpAny _ _ (call (Value.type "str") [Value.ref _]) _ _ _); refine hold ?_)
  k_with "compareOp NotEq ref ref" => refine hold ?_
  k_with "subscriptTail" => (k_dflt (show wpAny _ _ (subscriptTail _ _ (Value.str _ _) (Value.int _ _)) _ _ _); refine hold ?_)
  k_with "execs cons" => ((with_reducible refine wpAny_execs_cons ?_); try dsimp only)
  k_with "execs nil" => refine wpAny_execs_nil ?_
  k_with "execs cons" => (k_dflt (show wpAny _ _ (execs (Stmt.Assign [Expr.Name (Str.ofString "ends") _] _ _ :: _) _) _ _ _); refine hold ?_)
  k_with "execs cons" => (k_dflt (show wpAny _ _ (execs (Stmt.Assign [Expr.Tuple _ _ _] _ _ :: _) _) _ _ _); refine hold ?_)
  unfold lawEnv at next ⊢
  rw [show lawB.drop 10 = _ :: _ from rfl, show lawSc = ⟨_, _, _, _, _⟩ from rfl] at next
  rw [show lawB.drop 8 = _ :: _ from rfl, show lawSc = ⟨_, _, _, _, _⟩ from rfl]
  have F1 := frMap (m' := fun z => if z = Str.ofString "fronts" then some (.ref Fa) else if z = Str.ofString "starts" then some (.ref Sa) else if z = Str.ofString "rooms" then some (.ref Ra) else if z = Str.ofString "gate" then some (.ref γ.r) else m z) F (fun z => by
      by_cases h0 : z = Str.ofString "fronts"
      · rw [if_pos h0, h0, mF]
      · rw [if_neg h0]
        by_cases h1 : z = Str.ofString "starts"
        · rw [if_pos h1, h1, mS]
        · rw [if_neg h1]
          by_cases h2 : z = Str.ofString "rooms"
          · rw [if_pos h2, h2, mR]
          · rw [if_neg h2]
            by_cases h3 : z = Str.ofString "gate"
            · rw [if_pos h3, h3, mG]
            · rw [if_neg h3])
  clear F
  have next' := hold next
  clear next
  have hF' := hSit.old _ hF
  k_steps
  refine Hold.out (wpAny_with_toks (n := N0) (by first | omega | (dsimp only; omega)) (countLed (by k_asm) hF' hW (fun t1 k1 hk1 => ?_)))
  dsimp only at hk1
  k_steps
  refine Hold.out ?_
  (rename Fr _ _ _ _ => lF')
  with_unfolding_all refine For_KF lF' ?_
  k_steps
  have hlen : vS.length = ss.length := intsLen hIs
  refine Hold.out ⟨Sa, vS.toArray, nS, _, news, LoopJ N0 w.params σ gs γ old n ss Sa Ra, rfl, by rfl, by k_asm, by k_asm, fun i m₁ nw tk h => h.oldIn _ hSa, fun i m' nw tk tk' hle h => h.mono hle, ⟨bs, Fa, vF, nF, _, l, hbl, rfl, rfl, rfl, rfl, rfl, hW, ?_, ?_, ?_, hll, ?_⟩, ?_, ?_⟩
  · exact ⟨hS.dst, hS.lf, fun p hp => by
      rcases List.mem_cons.mp hp with rfl | hp
      · exact hS.off _ hF
      · exact hS.off _ hp⟩
  · exact hSit.sub fun p hp => by
      rcases List.mem_cons.mp hp with rfl | hp
      · exact hF'
      · exact hSit.old _ hp
  · rw [List.drop_zero]; exact hl
  · dsimp only; omega
  · intro i v m₁ nw I oI h tk hv hJ hcI hoff F₁ N₁
    obtain ⟨bs₁, Fb, vs, nb, tt, l₁, hbl₁, m1, m2, m3, m4, m5, hW₁, hS₁, H₁, hl₁, hll₁, hN₁⟩ := hJ
    rw [List.getElem?_toArray] at hv
    obtain ⟨x, tx, rfl, hxi⟩ := intsAt hIs hv
    obtain ⟨hx1, hxn⟩ := hss x (List.mem_of_getElem? hxi)
    have F2 := frMap (m' := fun z => if z = Str.ofString "fronts" then some (.ref Fb) else if z = Str.ofString "starts" then some (.ref Sa) else if z = Str.ofString "rooms" then some (.ref Ra) else if z = Str.ofString "gate" then some (.ref γ.r) else if z = Str.ofString "total" then some (.int ((bs₁.count true : Nat) : Int) tt) else m₁ z) F₁ (fun z => by
        by_cases h0 : z = Str.ofString "fronts"
        · rw [if_pos h0, h0, m1]
        · rw [if_neg h0]
          by_cases h1 : z = Str.ofString "starts"
          · rw [if_pos h1, h1, m2]
          · rw [if_neg h1]
            by_cases h2 : z = Str.ofString "rooms"
            · rw [if_pos h2, h2, m3]
            · rw [if_neg h2]
              by_cases h3 : z = Str.ofString "gate"
              · rw [if_pos h3, h3, m4]
              · rw [if_neg h3]
                by_cases h4 : z = Str.ofString "total"
                · rw [if_pos h4, h4, m5]
                · rw [if_neg h4])
    clear F₁
    have hxb : x ≤ (bs₁.length : Int) := by omega
    have LA := lawAt (bs := bs₁) (x := x) (by omega) (by omega) hx1 (by omega)
    have hFb := H₁.old _ (.head _)
    have S1 : Stat σ (gs ++ [γ]) ((I, oI) :: (Fb, listOf vs.toArray nb) :: old) := ⟨hS₁.dst, hS₁.lf, fun p hp => by
      rcases List.mem_cons.mp hp with rfl | hp
      · refine ⟨?_, fun ρ hρ => ?_⟩
        · obtain ⟨nl, ml⟩ := H₁.left
          exact Ne.symm (hoff _ ml)
        · rcases List.mem_append.mp hρ with hρ | hρ
          · obtain ⟨j, hj⟩ := List.getElem?_of_mem hρ
            obtain ⟨b, _, t, t', _, _, R0⟩ := H₁.room hj
            obtain ⟨tl, md⟩ := R0.hd
            obtain ⟨np, mp⟩ := R0.hpb
            exact ⟨Ne.symm (hoff _ md), Ne.symm (hoff _ mp)⟩
          · rw [List.mem_singleton.mp hρ]
            obtain ⟨tl, md⟩ := H₁.gate.hd
            obtain ⟨np, mp⟩ := H₁.gate.hpb
            exact ⟨Ne.symm (hoff _ md), Ne.symm (hoff _ mp)⟩
      · exact hS₁.off _ hp⟩
    have H1 : Sit N0 w.params σ gs γ ((I, oI) :: (Fb, listOf vs.toArray nb) :: old) (1 + (i : Int)) bs₁ l₁ ((I, oI) :: nw) := (H₁.mono fun p hp => .tail _ hp).sub fun p hp => by
      rcases List.mem_cons.mp hp with rfl | hp
      · exact .head _
      · exact .tail _ (H₁.old _ hp)
    have N1h := Hold.out N₁
    k_steps
    refine Hold.out ?_
    refine turn_A (N0 := N0) (w := w) X T K (bs := bs₁) (by omega) hx1 hxb LA (by k_asm) ⟨rfl, rfl, rfl, rfl, rfl⟩ rfl (by k_asm) (.tail _ hFb) hW₁ (by first | omega | (dsimp only; omega)) ?_
    intro Da vs2 tg ts h2 tk2 m2 news2 F3 hm2 mX2 mG2 mA2 mT2 N3 hs2 hDa hW2 hfr hk2
    try dsimp only at F3 N3
    have S2 : Stat σ (gs ++ [γ]) ((Da, listOf vs2.toArray 0) :: (I, oI) :: (Fb, listOf vs.toArray nb) :: old) := ⟨S1.dst, S1.lf, fun p hp => by
      rcases List.mem_cons.mp hp with rfl | hp
      · refine ⟨?_, fun ρ hρ => ?_⟩
        · obtain ⟨nl, ml⟩ := H₁.left
          exact Ne.symm (Nat.ne_of_lt (hfr _ (.tail _ ml)))
        · rcases List.mem_append.mp hρ with hρ | hρ
          · obtain ⟨j, hj⟩ := List.getElem?_of_mem hρ
            obtain ⟨b, _, t, t', _, _, R0⟩ := H₁.room hj
            obtain ⟨tl, md⟩ := R0.hd
            obtain ⟨np, mp⟩ := R0.hpb
            exact ⟨Ne.symm (Nat.ne_of_lt (hfr _ (.tail _ md))), Ne.symm (Nat.ne_of_lt (hfr _ (.tail _ mp)))⟩
          · rw [List.mem_singleton.mp hρ]
            obtain ⟨tl, md⟩ := H₁.gate.hd
            obtain ⟨np, mp⟩ := H₁.gate.hpb
            exact ⟨Ne.symm (Nat.ne_of_lt (hfr _ (.tail _ md))), Ne.symm (Nat.ne_of_lt (hfr _ (.tail _ mp)))⟩
      · exact S1.off _ hp⟩
    have H2 : Sit N0 w.params σ gs γ ((Da, listOf vs2.toArray 0) :: (I, oI) :: (Fb, listOf vs.toArray nb) :: old) (1 + (i : Int)) bs₁ l₁ news2 := (H1.mono hs2).sub fun p hp => by
      rcases List.mem_cons.mp hp with rfl | hp
      · exact hDa
      · exact hs2 _ (H1.old _ hp)
    have hdr : ss.drop i = x :: ss.drop (i + 1) := by
      obtain ⟨hlt, e⟩ := List.getElem?_eq_some_iff.mp hxi
      rw [List.drop_eq_getElem_cons hlt, e]
    rw [hdr, List.flatMap_cons] at hl₁
    obtain ⟨l1, l2, rfl, e1, e2⟩ := map_split hl₁
    have hl2 : l2.length ≤ 600 := by rw [List.length_append] at hll₁; omega
    have hcl : bs₁.count true ≤ bs₁.length := List.count_le_length
    have e2l := LA.len
    refine turn_B (w := w) X T K CH hx1 (by omega) (by omega) (by omega) F3 hm2 mX2 mG2 mA2 mT2 N3 S2 H2 e1 hl2 (nR := nR) (.tail _ (.tail _ (.tail _ hRa))) LA.walk LA.lo LA.hi LA.slo LA.shi hk2 ?_
    intro h3 tk3 m3 news3 F4 hm3 mX3 mA3 N4 H3 hk3
    try dsimp only at F4 N4
    refine turn_C (w := w) (n := n) X T K hx1 (by omega) (by omega) (by omega) (by omega) (by omega) F4 hm3 mX3 mA3 N4 S2 H3 (nR := nR) (.tail _ (.tail _ (.tail _ hRa))) (.tail _ (.tail _ (.tail _ hoS))) dS hk3 ?_
    intro Ea ys t4 h4 tk4 m4 news4 F5 hm4 mE4 N5 H4 hEa HL4 hk4
    try dsimp only at F5 N5
    refine turn_D (w := w) (bs := (toldP bs₁ x).2) X T K (by omega) (by omega) (by rw [LA.count, hbl₁]) F5 hm4 mE4 N5 H4 (H4.old _ (.head _)) hW2 hEa HL4 hk4 ?_
    intro h5 tk5 m5 news5 F6 hm5 N6 hs5 hk5
    have H5 := H4.mono hs5
    try dsimp only
    have nI : ∀ p ∈ nw, p.1 ∉ [I] := fun p hp q => hoff p hp (List.mem_singleton.mp q)
    have nO : ∀ p ∈ (Da, listOf vs2.toArray 0) :: old, p.1 ∉ [I] := fun p hp q => by
      have q := List.mem_singleton.mp q
      rcases List.mem_cons.mp hp with rfl | hp
      · exact Nat.ne_of_lt (hfr _ (.head _)) q.symm
      · exact hoff _ (H₁.old _ (.tail _ hp)) q
    refine ForEnd.intro (offs [I] news5) F6 (fun p hp => ?_) (fun p hp q => offs_ne p hp (List.mem_singleton.mpr q)) ⟨(toldP bs₁ x).2, Da, vs2, 0, t4, l2, by omega, hm5.fronts, hm5.starts, hm5.rooms, hm5.gate, ?_, hW2, ?_, ?_, e2, hl2, hk5⟩
    · rcases List.mem_cons.mp hp with rfl | hp
      · exact N6 _ (H5.old _ (.tail _ (.head _)))
      · exact N6 _ (offs_sub _ hp)
    · rw [hm5.total, LA.count, hbl₁]
    · exact ⟨S2.dst, S2.lf, fun p hp => by
        rcases List.mem_cons.mp hp with rfl | hp
        · exact S2.off _ (.head _)
        · exact S2.off _ (.tail _ (.tail _ (.tail _ hp)))⟩
    · have H6 := H₁.offs (as := [I]) (H5.sub (old' := (Da, listOf vs2.toArray 0) :: old) fun p hp => by
        rcases List.mem_cons.mp hp with rfl | hp
        · exact H5.old _ (.head _)
        · exact H5.old _ (.tail _ (.tail _ (.tail _ hp)))) nI nO
      rw [show 1 + ((i + 1 : Nat) : Int) = 1 + (i : Int) + 1 by omega]
      exact H6
  · intro m₁ nw h tk hJ F₁ N₁
    obtain ⟨bs₁, Fb, vs, nb, tt, l₁, hbl₁, m1, m2, m3, m4, m5, hW₁, hS₁, H₁, hl₁, hll₁, hN₁⟩ := hJ
    rw [List.size_toArray, hlen] at hl₁ H₁
    rw [List.drop_length, List.flatMap_nil] at hl₁
    have el : l₁ = [] := List.map_eq_nil_iff.mp hl₁
    subst el
    k_steps
    exact Hold.out (Hold.out next' bs₁ _ _ _ _ (by k_asm) m2 m3 m4 (by k_asm) (H₁.sub fun p hp => H₁.old _ (.tail _ hp)) (by first | omega | (dsimp only; omega)))
end
/-! part PhP -/
def endD (n k : Nat) : PyData := .list ((List.replicate n (2 : Int)).map PyData.int ++ [.str (Str.ofString ""), .int (1 + (k : Int))])
theorem end_ok : ([2, 3, 4, 5].all fun n => (List.range 12).all fun k => PySem.SeqAt.shaped (endD n k) && PyData.eqv (endD n k) (endD n k)) = true := by decide +kernel
theorem end_shaped {n k : Nat} (h2 : 2 ≤ n) (h5 : n ≤ 5) (hk : k ≤ 11) : PySem.SeqAt.shaped (endD n k) = true ∧ PyData.eqv (endD n k) (endD n k) = true := by
  have h := end_ok
  rw [List.all_eq_true] at h
  have h := h _ (mem2345 h2 h5)
  rw [List.all_eq_true] at h
  have h := h k (List.mem_range.mpr (by omega))
  rw [Bool.and_eq_true] at h
  exact h
theorem intsReads {h : Heap} {vs : List Value} {ns : List Int} (hI : IntsAre vs ns) {ys : List Value} {ds : List PyData} {as : List Addr} (r : ReadsAll h ys ds as) : ReadsAll h (vs ++ ys) (ns.map PyData.int ++ ds) as := by
  induction hI with
  | nil => exact r
  | cons n t _ ih => exact readsAll_cons_val (.int _ _) ih
theorem end_reads {h₀ h : Heap} {L D : Addr} {news : List (Addr × Obj)} {xs : List Value} {n k nn : Nat} {t u : Tok} (N : News h₀ L h news) (hm : (D, listOf (xs ++ [Value.str (Str.ofString "") t, .int (1 + (k : Int)) u]).toArray nn) ∈ news) (hI : IntsAre xs (List.replicate n 2)) : PySem.Reads h (Value.ref D) (endD n k) [D] :=
  reads_list_at (N _ hm).1 rfl rfl (by simpa using intsReads hI (readsAll_cons_val (.str _ _) (readsAll_cons_val (.int _ _) .nil)))
theorem end_eq {prog : Program} {w : World} {A : Around} {E : Value → Shared → Prop} {s : Shared} {h₀ : Heap} {L D D' : Addr} {news : List (Addr × Obj)} {xs xs' : List Value} {n k nn nn' : Nat} {t u t' u' : Tok} {Q : Value → Shared → Prop}
    (N : News h₀ L s.heap news) (hm : (D, listOf (xs ++ [Value.str (Str.ofString "") t, .int (1 + (k : Int)) u]).toArray nn) ∈ news) (hI : IntsAre xs (List.replicate n 2)) (hm' : (D', listOf (xs' ++ [Value.str (Str.ofString "") t', .int (1 + (k : Int)) u']).toArray nn') ∈ news) (hI' : IntsAre xs' (List.replicate n 2))
    (h2 : 2 ≤ n) (h5 : n ≤ 5) (hk : k ≤ 11) (hu : A.units + 64 < cLine) (h : Q (.bool true) s) : wpAny (model prog w) A (compareOp .Eq (.ref D) (.ref D')) Q E s := by
  obtain ⟨e1, e2⟩ := end_shaped h2 h5 hk
  refine eq_dataH (da := endD n k) (db := endD n k) (end_reads N hm hI) (end_reads N hm' hI') e1 e1 hu ?_
  rw [e2]
  exact h
theorem intsRep {x : Int} {t : Tok} : ∀ n, IntsAre (List.replicate n (.int x t)) (List.replicate n x)
  | 0 => .nil
  | n + 1 => .cons _ _ (intsRep n)
section
variable {w : World} {p : Program} {loose : List Str} {mean : ExcName → Option Value} {mg mb : Str → Option Value} {g : Heap} {L fa : Addr} {cd : Value} {s : Shared} {m : Str → Option Value}
theorem law_H {s0 : Shared} {N0 n : Nat} {tn : Tok} {oS : Obj} {Sa Ra : Addr} {vS : List Value} {nS nR k : Nat} {bs : List Bool} {σ : Sta} {gs : List Rm} {γ : Rm} {old news : List (Addr × Obj)} {xs : Array Value}
    (X : (Mine.hd.heap_39 w.params).In g) (T : Top p loose mean mg mb g) (K : Below callerA g [] g) (CH : CodeHd g 104 100) (hn2 : 2 ≤ n) (hn5 : n ≤ 5) (hgl : gs.length = n) (hk : vS.length = k) (hk11 : k ≤ 11)
    (F : Fr g L s.heap m) (mS : m (Str.ofString "starts") = some (.ref Sa)) (mR : m (Str.ofString "rooms") = some (.ref Ra)) (mG : m (Str.ofString "gate") = some (.ref γ.r)) (N : News g L s.heap news)
    (hS : Stat σ (gs ++ [γ]) old) (H : Sit N0 w.params σ gs γ old (1 + (k : Int)) bs [] news) (hRa : (Ra, listOf (gs.map fun ρ => Value.ref ρ.r).toArray nR) ∈ old) (hSa : (Sa, listOf vS.toArray nS) ∈ old) (hoS : (L + 1, oS) ∈ old) (dS : oS.data = .cell (some (.int (n : Int) tn)))
    (h100 : (100, tabObj xs) ∈ old) (hN0 : N0 ≤ s.toks) (hs : ∃ h0 t0, s = { s0 with heap := h0, toks := t0 }) :
    wpAny (model PySem.Challenge.rw_pg0063_01.row.prog w) (callerA.deeper (lawEnv L fa cd)) (execs (lawB.drop 10) (lawEnv L fa cd)) (LawEnd g L s0) (fun _ _ => False) s := by
  k_with_none
  w_top off
  k_with "call builtin:list.pop" => (k_here; (with_reducible show wpAny _ _ (call (Value.builtin _) [Value.ref _, Value.int 0 _]) _ _ _); k_dflt (refine pop0 (by k_asm) (by k_asm) (by k_upd) (by assumption) ?_); intro _ _ _)
  k_with "truthy ref" => (k_here; k_dflt (refine truthyCons (by k_asm) (by k_mem) (by assumption) ?_); (try rw [if_pos rfl]))
  k_with "call builtin:len" => (k_here; (with_reducible show wpAny _ _ (call (Value.builtin "len") [Value.ref _]) _ _ _); k_dflt (refine lenLed (by k_asm) (by k_mem) (by first | assumption | (simp only [List.length_cons, List.length_nil]; omega)) ?_))
  k_with "eval Name" => (k_here; (with_reducible show wpAny _ _ (eval (Expr.Name _ _) (compEnvC _ _ _ _)) _ _ _); k_dflt (refine LCgL.ld_own (by k_asm) (.tail _ (.head _)) (by assumption) (by assumption) ?_))
  k_with "eval ListComp" => refine hold ?_
  k_with "CompSrc" => refine hold ?_
  k_with "CompK" => refine hold ?_
  k_with "ForK" => refine hold ?_
  k_with "exec For Name Name cons nil" => refine hold ?_
  k_with "call ref" => (k_dflt (show wpAny _ _ (call (Value.ref 42) [Value.ref _]) _ _ _); refine hold ?_)
  k_with "call ref" => (k_dflt (show wpAny _ _ (call (Value.ref 112) [Value.ref _]) _ _ _); refine hold ?_)
  k_with "call ref" => (k_dflt (show wpAny _ _ (call (Value.ref 117) [Value.ref _]) _ _ _); refine hold ?_)
  k_with "call ref" => (k_dflt (show wpAny _ _ (call (Value.ref 136) [Value.ref _, _]) _ _ _); refine hold ?_)
  k_with "call ref" => (k_dflt (show wpAny _ _ (call (Value.ref 141) [_, Value.ref _]) _ _ _); refine hold ?_)
  k_with "call ref" => (k_dflt (show wpAny _ _ (call (Value.ref 131) [Value.ref _, _]) _ _ _); refine hold ?_)
  k_with "call ref" => (k_dflt (show wpAny _ _ (call (Value.ref 91) [Value.ref _, _]) _ _ _); refine hold ?_)
  k_with "call builtin:list.count" => refine hold ?_
  k_with "subscriptTail" => (k_dflt (show wpAny _ _ (subscriptTail _ _ (Value.str _ _) (Value.int _ _)) _ _ _); refine hold ?_)
  k_with "execs cons" => ((with_reducible refine wpAny_execs_cons ?_); try dsimp only)
  k_with "execs nil" => refine wpAny_execs_nil ?_
  k_with "binaryOp Mult ref int" => refine hold ?_
  k_with "binaryOp Add ref ref" => refine hold ?_
  k_with "compareOp Eq ref ref" => refine hold ?_
  unfold lawEnv
  rw [show lawB.drop 10 = _ :: _ from rfl, show lawSc = ⟨_, _, _, _, _⟩ from rfl]
  have F1 := frMap (m' := fun z => if z = Str.ofString "starts" then some (.ref Sa) else if z = Str.ofString "rooms" then some (.ref Ra) else if z = Str.ofString "gate" then some (.ref γ.r) else m z) F (fun z => by
      by_cases q0 : z = Str.ofString "starts"
      · rw [if_pos q0, q0, mS]
      · rw [if_neg q0]
        by_cases q1 : z = Str.ofString "rooms"
        · rw [if_pos q1, q1, mR]
        · rw [if_neg q1]
          by_cases q2 : z = Str.ofString "gate"
          · rw [if_pos q2, q2, mG]
          · rw [if_neg q2])
  clear F
  obtain ⟨h0, tk0, rfl⟩ := hs
  try dsimp only at F1 N hN0
  have hN1 := H.pos (by omega)
  have hRa1 := H.old _ hRa
  have hpl : γ.pb ≠ σ.lf := hS.lf γ (List.mem_append_right _ (.head _))
  k_steps
  refine Hold.out ?_
  refine ListComp_KF (by k_asm) (by rfl) (by decide) (by rfl) (by decide) (by rfl) ?_
  k_steps
  refine Hold.out ⟨Ra, (gs.map fun ρ => Value.ref ρ.r).toArray, nR, _, fun i zs nw tk => (∀ q ∈ news, q ∈ nw) ∧ IntsAre zs (List.replicate i 2) ∧ N0 ≤ tk, rfl, by rfl, by k_asm, by k_asm, fun i ys nw tk h => h.1 _ hRa1, by rw [List.size_toArray, List.length_map, sizeLine_eq]; omega, fun i ys nw tk tk' hle h => ⟨h.1, h.2.1, Nat.le_trans h.2.2 hle⟩, ⟨fun _ h => h, .nil, by first | omega | (dsimp only; omega)⟩, ?_, ?_⟩
  · intro i v zs nw I oI C oC D m₂ h tk E' hv htk1 hJ hcI hC hx F9 N9 off9 ne9
    obtain ⟨HS, HZ, hk'⟩ := hJ
    rw [List.getElem?_toArray, List.getElem?_map] at hv
    obtain ⟨ρ, hgi, rfl⟩ := Option.map_eq_some_iff.mp hv
    obtain ⟨b, hbi, t, t', _, _, Rρ⟩ := H.room hgi
    have hmr := HS _ Rρ.hr
    obtain ⟨tl, md⟩ := Rρ.hd
    have hmd := HS _ md
    k_steps
    refine CompKEnd.intro nw (by k_asm) (by k_asm) (by assumption) ⟨HS, ?_, by first | omega | (dsimp only; omega)⟩
    rw [List.replicate_succ']
    exact HZ.append (.cons _ _ .nil)
  · intro zs nw D h tk hJ F9 N9 off9
    rw [List.size_toArray, List.length_map, hgl] at hJ
    obtain ⟨HS, HZ, hk'⟩ := hJ
    have H1 := H.mono (news' := (D, LCg.lst zs) :: nw) fun p hp => .tail _ (HS _ hp)
    have hmr := H1.gate.hr
    obtain ⟨tl, md⟩ := H1.gate.hd
    have N9h := Hold.out N9
    k_steps
    refine Hold.out (tok_end_k (chars := []) (by k_asm) (by k_asm) (by k_asm) (by k_asm) (by k_asm) (by rfl) CH H1.sta H1.gate H1.left hpl (by first | omega | (dsimp only; omega)) (by simp) (by ktr_room) (by ktr_units) ?_)
    intro t2 h2 tk2 news2 F2 N2 K2 S2 R2 L2 ho2
    have H2 := H1.gateTurn (l' := []) (id N9h : News _ _ _ _) hS K2 S2 R2 L2
    have hmr2 := H2.gate.hr
    obtain ⟨tl2, md2⟩ := H2.gate.hd
    have hD2 : (D, listOf zs.toArray zs.length) ∈ news2 := K2 _ (.head _) fun q => by
      obtain ⟨nl, ml⟩ := H.left
      obtain ⟨tg, mg⟩ := H.gate.hd
      rcases List.mem_cons.mp q with q | q
      · exact off1_mem off9 _ (HS _ ml) q.symm
      · exact off1_mem off9 _ (HS _ mg) (List.mem_singleton.mp q).symm
    have hSa2 := H2.old _ hSa
    have hoS2 := H2.old _ hoS
    have h1002 := H2.old _ h100
    have hzl : zs.length ≤ 10 := by
      have := intsLen HZ
      rw [List.length_replicate] at this
      omega
    k_steps
    refine Hold.out (addLed (by k_asm) (by k_asm) (.tail _ hD2) (.head _) (by simp only [List.length_cons, List.length_nil]; omega) ?_)
    intro D3 h3 F3 N3 lt3
    k_steps
    refine Hold.out (mulOne (j := n) (by k_asm) (by k_asm) (.head _) rfl (by omega) ?_)
    intro D4 h4 F4 N4 lt4
    k_steps
    refine lenLed (by k_asm) (.tail _ (.tail _ (.tail _ (.tail _ hSa2)))) (by omega) ?_
    rw [hk]
    k_steps
    refine Hold.out (addLed (by k_asm) (by k_asm) (.tail _ (.head _)) (.head _) (by simp only [List.length_cons, List.length_nil, List.length_replicate]; omega) ?_)
    intro D5 h5 F5 N5 lt5
    k_steps
    refine Hold.out (end_eq (k := k) (by k_asm) (.tail _ (.tail _ (.tail _ (.tail _ (.head _))))) HZ (.head _) (intsRep n) hn2 hn5 hk11 (by ktr_units) ?_)
    k_steps
    exact ⟨rfl, h5, _, _, _, xs, rfl, by k_asm, by k_asm, .tail _ (.tail _ (.tail _ (.tail _ (.tail _ (.tail _ h1002)))))⟩
end
/-! part PhQ -/
theorem spell_len (b : Bool) (kind : Int) : (spellS (wd b) (wd (!b)) kind).length ≤ 11 := by
  have m3 := Int.fmod_lt_of_pos kind (show (0 : Int) < 3 by decide)
  have n3 := Int.fmod_nonneg_of_pos kind (show (0 : Int) < 3 by decide)
  have m2 := Int.fmod_lt_of_pos kind (show (0 : Int) < 2 by decide)
  have n2 := Int.fmod_nonneg_of_pos kind (show (0 : Int) < 2 by decide)
  have h3 : Int.fmod kind 3 = 0 ∨ Int.fmod kind 3 = 1 ∨ Int.fmod kind 3 = 2 := by omega
  have h2 : Int.fmod kind 2 = 0 ∨ Int.fmod kind 2 = 1 := by omega
  unfold spellS
  cases b <;> rcases h3 with e3 | e3 | e3 <;> rcases h2 with e2 | e2 <;> rw [e3, e2] <;> decide +kernel
theorem gate_len {x : Int} (h1 : 1 ≤ x) (h5 : x ≤ 5) : (gateS x).length ≤ 11 := by
  have hc : x = 1 ∨ x = 2 ∨ x = 3 ∨ x = 4 ∨ x = 5 := by omega
  rcases hc with rfl | rfl | rfl | rfl | rfl <;> decide +kernel
theorem flatS_len : ∀ {ts : List Str}, (∀ x ∈ ts, x.length ≤ 11) → (ts.flatMap signs).length ≤ 11 * ts.length
  | [], _ => by simp
  | t :: ts, h => by
    have h1 := h t (.head _)
    have h2 := flatS_len (ts := ts) fun x hx => h x (.tail _ hx)
    rw [List.flatMap_cons, List.length_append, signs_length, List.length_cons]
    omega
theorem signs_one {x y : Str} (h : y ∈ signs x) : y.length = 1 := by
  unfold signs at h
  obtain ⟨n, _, rfl⟩ := List.mem_map.mp h
  rfl
theorem CellIn.mono {c : Addr} {v : Option Value} {news news' : List (Addr × Obj)} (h : CellIn c v news) (hs : ∀ p ∈ news, p ∈ news') : CellIn c v news' := h.elim fun o e => ⟨o, hs _ e.1, e.2⟩
theorem lines_len (q : Int) (bs : List Bool) (n : Nat) : (linesS q bs n).length = n := by rw [linesS_eq, List.length_map, List.length_range]
theorem all_len {q : Int} {bs : List Bool} {n : Nat} {ss : List Int} (hn5 : n ≤ 5) (hss : ∀ x ∈ ss, 1 ≤ x ∧ x ≤ (n : Int)) : ∀ x ∈ linesS q bs n ++ ss.map gateS, x.length ≤ 11 := fun x hx => by
  rcases List.mem_append.mp hx with hx | hx
  · rw [linesS_eq] at hx
    obtain ⟨i, _, rfl⟩ := List.mem_map.mp hx
    exact spell_len _ _
  · obtain ⟨y, hy, rfl⟩ := List.mem_map.mp hx
    have := hss y hy
    exact gate_len this.1 (by omega)
theorem refs_ne {gs : List Rm} (hg : 0 < gs.length) {l : List (Str × Tok)} {n n' : Nat} : listOf (gs.map fun ρ => Value.ref ρ.r).toArray n ≠ listOf (strValues l).toArray n' := fun e => by
  have e1 : Data.seq (gs.map fun ρ => Value.ref ρ.r).toArray n = Data.seq (strValues l).toArray n' := congrArg Obj.data e
  injection e1 with e2 _
  have e3 : (gs.map fun ρ => Value.ref ρ.r) = strValues l := by simpa using congrArg Array.toList e2
  cases gs with
  | nil => simp at hg
  | cons g gs =>
    cases l with
    | nil => simp [strValues] at e3
    | cons x l => simp [strValues] at e3
section
variable {w : World} {p : Program} {loose : List Str} {mean : ExcName → Option Value} {mg mb : Str → Option Value} {g : Heap} {L fa : Addr} {cd : Value} {s : Shared} {m : Str → Option Value}
theorem law_body {sl : Addr} {zs : List Int} {vs : List Value} {o1 o2 o3 : Obj}
    (X : (Mine.hd.heap_39 w.params).In g) (T : Top p loose mean mg mb g) (K : Below callerA g [] g) (F : Fr g L s.heap m) (hm : m (Str.ofString "script") = some (.ref sl)) (hL : g.IsList sl vs.toArray) (hI : IntsAre vs zs) (hlen : zs.length ≤ 63) (CH : CodeHd g 104 100)
    (N : News g L s.heap [(L + 1 + 1 + 1, o1), (L + 1 + 1, o2), (L + 1, o3), (100, tabObj #[])]) (d1 : o1.data = .cell none) (d2 : o2.data = .cell none) (d3 : o3.data = .cell none) (l0 : @LT.lt Nat _ 100 L) :
    wpAny (model PySem.Challenge.rw_pg0063_01.row.prog w) (callerA.deeper (lawEnv L fa cd)) (execs lawB (lawEnv L fa cd)) (LawEnd g L s) (fun _ _ => False) s := by
  refine law_A X T K F hm hL hI hlen CH N d1 d2 d3 l0 ?_
  intro n ones tn to Fa Sa vF vS bs ss nF nS h1 tk1 m1 news1 hn2 hn5 hbl hsl hss F1 mF1 mS1 N1 hcS1 hcO1 hcT1 h1001 hF1 hW1 hS1 hIs1
  refine law_B X T K hn2 hn5 hbl hsl hss F1 mF1 mS1 N1 hcS1 hcO1 hcT1 h1001 hF1 hW1 hS1 hIs1 ?_
  intro Ta vT nT h2 tk2 m2 news2 F2 mF2 mS2 mT2 N2 sub2 hT2 hTs2
  refine law_C X T K hn2 hn5 hsl hss (by rw [lines_len]; exact hn5) F2 mF2 mS2 mT2 N2 (sub2 _ hS1) hIs1 hT2 hTs2 ?_
  intro Ta' vT' nT' h3 tk3 m3 news3 F3 mF3 mS3 mT3 N3 sub3 hT3 hTs3
  have hall := all_len (q := Int.fdiv ones 32) (bs := bs) hn5 hss
  have htl : (linesS (Int.fdiv ones 32) bs n ++ ss.map gateS).length ≤ 16 := by rw [List.length_append, lines_len, List.length_map]; omega
  have sub13 : ∀ q ∈ news1, q ∈ news3 := fun q hq => sub3 _ (sub2 _ hq)
  refine law_D X T K CH l0 htl (fun x hx => Nat.le_trans (hall x hx) (by decide)) F3 mF3 mS3 mT3 N3 (hcT1.mono sub13) (sub13 _ h1001) hT3 hTs3 ?_
  intro σ l h4 tk4 m4 news4 F4 mF4 mS4 N4 K4 ⟨xs, h1004⟩ hcT4 St4 Lf4 hl4 lt4
  have nk : ∀ {o : Obj} {a : Addr}, (a, o) ∈ news1 → @Ne Nat a 100 → @Ne Nat a (L + 1 + 1 + 1) → (a, o) ∈ news4 := fun h n1 n2 => K4 _ (sub13 _ h) fun q => by
    rcases List.mem_cons.mp q with q | q
    · exact n1 q
    · exact n2 (List.mem_singleton.mp q)
  have l0' : @LT.lt Nat _ 100 L := l0
  obtain ⟨oS, hoS1, dS⟩ := hcS1
  have hoS4 : (L + 1, oS) ∈ news4 := nk hoS1 (by show ¬ (@Eq Nat (L + 1) 100); omega) (by show ¬ (@Eq Nat (L + 1) (L + 1 + 1 + 1)); omega)
  refine law_E X T K hn2 hn5 F4 mF4 mS4 N4 ⟨oS, hoS4, dS⟩ hcT4 ?_
  intro Ra nR gs γ h5 tk5 m5 news5 F5 mF5 mS5 mR5 mG5 N5 sub5 hgl hRa5 hNR hneRa
  have hcT1' := hcT1
  obtain ⟨oT, hoT1, dT⟩ := hcT1'
  have hF4 : (Fa, listOf vF.toArray nF) ∈ news4 := nk hF1 (apart' N1 hF1 h1001 (neData rfl rfl (by intro e; cases e))) (apart' N1 hF1 hoT1 (neData rfl dT (by intro e; cases e)))
  have hS4 : (Sa, listOf vS.toArray nS) ∈ news4 := nk hS1 (apart' N1 hS1 h1001 (neData rfl rfl (by intro e; cases e))) (apart' N1 hS1 hoT1 (neData rfl dT (by intro e; cases e)))
  have Lf5 := Lf4.mono sub5
  have hSt : Stat σ (gs ++ [γ]) [(Fa, listOf vF.toArray nF), (Sa, listOf vS.toArray nS), (Ra, listOf (gs.map fun ρ => Value.ref ρ.r).toArray nR), (L + 1, oS), (100, tabObj xs)] := by
    refine ⟨hNR.dst, fun ρ hρ => ?_, fun p hp => ?_⟩
    · obtain ⟨nl, ml⟩ := Lf4
      exact Ne.symm (Nat.ne_of_lt (hNR.new ρ hρ _ ml).2.2)
    · have four : ∀ {q : Addr × Obj}, q ∈ news4 → @LT.lt Nat _ q.1 σ.lf → q.1 ≠ σ.lf ∧ ∀ ρ ∈ gs ++ [γ], q.1 ≠ ρ.d ∧ q.1 ≠ ρ.pb := fun hq hlt =>
        ⟨Nat.ne_of_lt hlt, fun ρ hρ => ⟨Nat.ne_of_lt (hNR.new ρ hρ _ hq).2.1, Nat.ne_of_lt (hNR.new ρ hρ _ hq).2.2⟩⟩
      rcases List.mem_cons.mp hp with rfl | hp
      · exact four hF4 (lt4 _ (sub13 _ hF1))
      rcases List.mem_cons.mp hp with rfl | hp
      · exact four hS4 (lt4 _ (sub13 _ hS1))
      rcases List.mem_cons.mp hp with rfl | hp
      · refine ⟨?_, fun ρ hρ => ⟨?_, Ne.symm (hneRa ρ hρ)⟩⟩
        · obtain ⟨nl, ml⟩ := Lf5
          exact apart' N5 hRa5 ml (refs_ne (by omega))
        · obtain ⟨tl, md⟩ := (hNR.all ρ hρ).hd
          exact apart' N5 hRa5 md (neData rfl rfl (by intro e; cases e))
      rcases List.mem_cons.mp hp with rfl | hp
      · exact four hoS4 (lt4 _ (sub13 _ hoS1))
      rw [List.mem_singleton.mp hp]
      have z := lt4 _ (sub13 _ h1001)
      exact four h1004 z
  have hold5 : ∀ p ∈ [(Fa, listOf vF.toArray nF), (Sa, listOf vS.toArray nS), (Ra, listOf (gs.map fun ρ => Value.ref ρ.r).toArray nR), (L + 1, oS), (100, tabObj xs)], p ∈ news5 := fun p hp => by
    rcases List.mem_cons.mp hp with rfl | hp
    · exact sub5 _ hF4
    rcases List.mem_cons.mp hp with rfl | hp
    · exact sub5 _ hS4
    rcases List.mem_cons.mp hp with rfl | hp
    · exact hRa5
    rcases List.mem_cons.mp hp with rfl | hp
    · exact sub5 _ hoS4
    rw [List.mem_singleton.mp hp]
    exact sub5 _ h1004
  have hfl := hl4
  rw [signs_flat] at hfl
  have hll : l.length ≤ 600 := by
    have e := congrArg List.length hfl
    have z := flatS_len hall
    rw [List.length_map] at e
    omega
  have hl1 : ∀ x ∈ l, x.1.length = 1 := fun x hx => by
    have e : x.1 ∈ l.map (·.1) := List.mem_map_of_mem (f := fun x : Str × Tok => x.1) hx
    rw [hl4] at e
    exact signs_one e
  have hl0 : l.map (·.1) = leftS (Int.fdiv ones 32) bs gs.length 0 (ss.flatMap fun x => signs (gateS x)) := by
    rw [hfl, List.flatMap_append, linesS_eq, List.flatMap_map, List.flatMap_map, hgl]
    rfl
  generalize hold : [(Fa, listOf vF.toArray nF), (Sa, listOf vS.toArray nS), (Ra, listOf (gs.map fun ρ => Value.ref ρ.r).toArray nR), (L + 1, oS), (100, tabObj xs)] = old at hSt hold5
  have mF : (Fa, listOf vF.toArray nF) ∈ old := by rw [← hold]; exact .head _
  have mS : (Sa, listOf vS.toArray nS) ∈ old := by rw [← hold]; exact .tail _ (.head _)
  have mR : (Ra, listOf (gs.map fun ρ => Value.ref ρ.r).toArray nR) ∈ old := by rw [← hold]; exact .tail _ (.tail _ (.head _))
  have mO : (L + 1, oS) ∈ old := by rw [← hold]; exact .tail _ (.tail _ (.tail _ (.head _)))
  have mH : (100, tabObj xs) ∈ old := by rw [← hold]; exact .tail _ (.tail _ (.tail _ (.tail _ (.head _))))
  refine law_F X T K CH hn2 hn5 hbl hgl F5 mF5 mS5 mR5 mG5 N5 mF hW1 mR hold5 (St4.mono sub5) Lf5 hl0 hll hl1 hNR.all hSt ?_
  intro N0 l6 h6 tk6 m6 news6 F6 mF6 mS6 mR6 mG6 N6 Sit6 hN6 hl6 hll6 hl16
  refine law_G X T K CH hn2 hn5 hbl hgl hsl hss F6 mF6 mS6 mR6 mG6 N6 mF hW1 mR mS hIs1 mO dS hSt Sit6 hN6 hl6 hll6 ?_
  intro bs7 h7 tk7 m7 news7 F7 mS7 mR7 mG7 N7 Sit7 hN7
  exact law_H X T K CH hn2 hn5 hgl (intsLen hIs1) hsl F7 mS7 mR7 mG7 N7 hSt Sit7 mR mS mO dS mH hN7 ⟨_, _, rfl⟩
end
end Mine
theorem Mine.T0 : PySem.Challenge.rw_pg0063_01.Holds := Mine.hd (by
  k_with_none
  w_top off
  w_strict (
    k_go0
    all_goals try k_fold
    refine wpAny_mono (Mine.law_body (by assumption) (by assumption) (by assumption) (by assumption) rfl (by assumption) (by assumption) (by omega) (by assumption) (by assumption) (by assumption) (by assumption) (by assumption) (by assumption)) ?_ ?_
    rotate_left
    · intro _ _ h; exact h.elim
    intro f s' h
    obtain ⟨hf, h', tk', m', news', xs, hs, FF, NN, h100⟩ := h
    subst hf
    subst hs
    try dsimp only
    refine ⟨?_, GrownAt.of NN h100, trivial⟩
    wrow_close))
theorem PySem.Challenge.cw_pg0063_01_holds : PySem.Challenge.rw_pg0063_01.Holds := by
  exact Mine.T0
#print axioms PySem.Challenge.cw_pg0063_01_holds

