import PyProof.Rows.All
import Wide.All
import OpenK.AllK
import Wide.FinOn
import PySem.Challenge.RW_dj5017_01
open PySem PySem.W PySem.W.X PyProof.Rows
set_option Elab.async false
set_option linter.all false
set_option pp.maxSteps 30000
namespace Mine
set_option maxRecDepth 100000 in
set_option maxHeartbeats 8000000 in
open_top hd for PySem.Challenge.rw_dj5017_01
end Mine
namespace Mine
theorem pa_pat : PlainAttrs "re.Pattern" :=
  ⟨⟨"object.__getattribute__", by rw [typeLookup_type, builtinLookup_eq_fast]; kernel_rfl, by decide +kernel⟩, by rw [typeLookup_type, builtinLookup_eq_fast]; kernel_rfl⟩
theorem slot_search : Slot "re.Pattern" "search" "re.Pattern.search" :=
  .of (owner := "re.Pattern") (n := "search") (by rw [typeLookup_type, builtinLookup_eq_fast]; kernel_rfl) (by decide +kernel) (by decide +kernel) (by decide +kernel)
    (by first | exact .inl (by decide +kernel) | exact .inr (by decide +kernel)) (by rw [isSubtype_type]; kernel_rfl)
theorem type_search : typeOf (.builtin "re.Pattern.search") = pure (.type "method_descriptor") := by show builtinType _ = _; rw [builtinType_eq_fast]; kernel_rfl
theorem getm_search {M : Model} {A : Around} {E : Value → Shared → Prop} {s : Shared} {pl : Sem Bool} {Q : Value × List Value → Shared → Prop} {K : Frag} {h₀ : Heap} {L b : Addr} {m : Str → Option Value} {dt : Data} {sl : Array (Option Value)}
    (F : Fr h₀ L s.heap m) (X : K.In h₀) (e : K.lookup b = some ⟨.type "re.Pattern", none, dt, sl⟩)
    (h : Q (.builtin "re.Pattern.search", [.ref b]) s) : wpAny M A (getMethod (.ref b) (Str.ofString "search") pl) Q E s :=
  getMethod_builtin ⟨_, X.keeps F.keep _ _ e, rfl⟩ pa_pat slot_search type_search (fun a q => by cases q; exact ⟨_, X.keeps F.keep _ _ e, rfl⟩) h

def heads : List Str := [Str.ofString "a", Str.ofString "A", Str.ofString "b", Str.ofString "B", Str.ofString "c", Str.ofString "C"]
def vals : List Str := [Str.ofString "0", Str.ofString "1"]

local macro_rules | `(tactic| x_close) => `(tactic| assumption)
set_option maxRecDepth 100000 in
set_option maxHeartbeats 8000000 in
theorem search_name {w : World} {A : Around} {s : Shared} {tk : Tok} {x : Str} (hx : x ∈ heads)
    {Q E : Value → Shared → Prop} (KX : (hd.heap_39 w.params).In s.heap) (h : Q .none s) :
    wpAny (model Challenge.rw_dj5017_01.row.prog w) A (call (.builtin "re.Pattern.search") [.ref 48, .str x tk] []) Q E s := by
  revert KX; k_fill; intro KX
  simp only [heads, List.mem_cons, List.not_mem_nil, or_false] at hx
  rcases hx with rfl | rfl | rfl | rfl | rfl | rfl <;> x_run
set_option maxRecDepth 100000 in
set_option maxHeartbeats 8000000 in
theorem search_val {w : World} {A : Around} {s : Shared} {tk : Tok} {x : Str} (hx : x ∈ vals)
    {Q E : Value → Shared → Prop} (KX : (hd.heap_39 w.params).In s.heap) (h : Q .none s) :
    wpAny (model Challenge.rw_dj5017_01.row.prog w) A (call (.builtin "re.Pattern.search") [.ref 53, .str x tk] []) Q E s := by
  revert KX; k_fill; intro KX
  simp only [vals, List.mem_cons, List.not_mem_nil, or_false] at hx
  rcases hx with rfl | rfl <;> x_run

local macro_rules | `(tactic| walk_at "getMethod ref") => `(tactic| (k_here; (with_reducible show wpAny _ _ (getMethod (Value.ref _) (Str.ofString "search") _) _ _ _); k_dflt (refine' getm_search ?k1 ?k2 ?k3 ?_; (case k1 => k_asm); (case k2 => k_asm); (case k3 => k_is); k_whole)))
local macro_rules | `(tactic| walk_at "call builtin:re.Pattern.search") => `(tactic| (k_here; k_dflt (first | (refine' search_name ?k1 ?k2 ?_; (case k1 => assumption); (case k2 => k_in); k_whole) | (refine' search_val ?k1 ?k2 ?_; (case k1 => assumption); (case k2 => k_in); k_whole))))
set_option maxRecDepth 100000 in
set_option maxHeartbeats 8000000 in
theorem conv_name {w : World} {mean : ExcName → Option Value} {mg mb : Str → Option Value} {dp un : Nat} {gd : Option (List Code)} {cn : Str} {cs : Scope} {a : Addr} {ccd : Value} {cl : List (Str × Addr)} {outer : List Env} {A₀ : Around} {base h₀ : Heap} {L : Addr} {m : Str → Option Value} {s : Shared}
    {Q E : Value → Shared → Prop} {self : Value} {x : Str} {tk : Tok} {news : List (Addr × Obj)} (B : Below A₀ base outer h₀) (F : Fr h₀ L s.heap m) (X : (hd.heap_39 w.params).In h₀) (N : News h₀ L s.heap (news))
    (T : Top hd.view_39 (looseW hd.view_39 [Str.ofString "tspecials", Str.ofString "_name_disallowed_re", Str.ofString "_value_disallowed_re", Str.ofString "_formatparam"]) mean mg mb h₀)
    (hk : cs.kind = .function) (hdp : dp + 1 < recursionLimit) (hu : un + 8 < cLine) (hx : x ∈ heads)
    (hret : ∀ h' tk', Fr h₀ L h' m → News h₀ L h' news → Q (.str x tk) { s with heap := h', toks := tk' }) :
    wpAny (model Challenge.rw_dj5017_01.row.prog w) (ktrTop dp un gd cn cs L a ccd cl outer) (call (.ref 83) [self, .str x tk] [(Str.ofString "name", .bool true)]) Q E s := by
  w_top off
  revert X; k_fill; intro X
  refine wpAny_call ?_
  k_dflt cell_enter
  k_steps
  exact hret _ _ (by assumption) (by assumption)
set_option maxRecDepth 100000 in
set_option maxHeartbeats 8000000 in
theorem conv_val {w : World} {mean : ExcName → Option Value} {mg mb : Str → Option Value} {dp un : Nat} {gd : Option (List Code)} {cn : Str} {cs : Scope} {a : Addr} {ccd : Value} {cl : List (Str × Addr)} {outer : List Env} {A₀ : Around} {base h₀ : Heap} {L : Addr} {m : Str → Option Value} {s : Shared}
    {Q E : Value → Shared → Prop} {self : Value} {x : Str} {tk : Tok} {news : List (Addr × Obj)} (B : Below A₀ base outer h₀) (F : Fr h₀ L s.heap m) (X : (hd.heap_39 w.params).In h₀) (N : News h₀ L s.heap (news))
    (T : Top hd.view_39 (looseW hd.view_39 [Str.ofString "tspecials", Str.ofString "_name_disallowed_re", Str.ofString "_value_disallowed_re", Str.ofString "_formatparam"]) mean mg mb h₀)
    (hk : cs.kind = .function) (hdp : dp + 1 < recursionLimit) (hu : un + 8 < cLine) (hx : x ∈ vals)
    (hret : ∀ h' tk', Fr h₀ L h' m → News h₀ L h' news → Q (.str x tk) { s with heap := h', toks := tk' }) :
    wpAny (model Challenge.rw_dj5017_01.row.prog w) (ktrTop dp un gd cn cs L a ccd cl outer) (call (.ref 83) [self, .str x tk] [(Str.ofString "name", .bool false)]) Q E s := by
  w_top off
  revert X; k_fill; intro X
  refine wpAny_call ?_
  k_dflt cell_enter
  k_steps
  exact hret _ _ (by assumption) (by assumption)
end Mine
namespace Mine
def Stop (P : Prop) : Prop := P
theorem Stop.intro {P : Prop} (h : Stop P) : P := h
theorem stop_of {P : Prop} (h : P) : Stop P := h
def low (y : Str) : Str := if y = Str.ofString "A" then Str.ofString "a" else if y = Str.ofString "B" then Str.ofString "b" else if y = Str.ofString "C" then Str.ofString "c" else y
theorem low_a : low (Str.ofString "a") = Str.ofString "a" := by decide +kernel
theorem low_A : low (Str.ofString "A") = Str.ofString "a" := by decide +kernel
theorem low_b : low (Str.ofString "b") = Str.ofString "b" := by decide +kernel
theorem low_B : low (Str.ofString "B") = Str.ofString "b" := by decide +kernel
theorem low_c : low (Str.ofString "c") = Str.ofString "c" := by decide +kernel
theorem low_C : low (Str.ofString "C") = Str.ofString "c" := by decide +kernel
theorem low_mem {y : Str} (hy : y ∈ heads) : low y ∈ heads := by
  simp only [heads, List.mem_cons, List.not_mem_nil, or_false] at hy ⊢
  rcases hy with rfl | rfl | rfl | rfl | rfl | rfl
  · rw [low_a]; simp
  · rw [low_A]; simp
  · rw [low_b]; simp
  · rw [low_B]; simp
  · rw [low_c]; simp
  · rw [low_C]; simp
local macro_rules | `(tactic| x_close) => `(tactic| (rename (∀ _ _, _) => hq9; exact hq9 _ _))
set_option maxRecDepth 100000 in
set_option maxHeartbeats 8000000 in
theorem lower_spec {w : World} {A : Around} {s : Shared} {tk : Tok} {y : Str} (hy : y ∈ heads)
    {Q E : Value → Shared → Prop} (h : ∀ t tk', Q (.str (low y) t) { s with toks := tk' }) :
    wpAny (model Challenge.rw_dj5017_01.row.prog w) A (call (.builtin "str.lower") [.str y tk] []) Q E s := by
  simp only [heads, List.mem_cons, List.not_mem_nil, or_false] at hy
  rcases hy with rfl | rfl | rfl | rfl | rfl | rfl
  · rw [low_a] at h; x_run
  · rw [low_A] at h; x_run
  · rw [low_b] at h; x_run
  · rw [low_B] at h; x_run
  · rw [low_c] at h; x_run
  · rw [low_C] at h; x_run
theorem below_ne {news rest : List (Addr × Obj)} {d b : Addr} (h : ∀ p ∈ news, p.1 < d) (hb : @LE.le Nat _ d b) (hs : ∀ p ∈ rest, p ∈ news) : ∀ p ∈ rest, p.1 ≠ b :=
  fun p hp e => absurd (h p (hs p hp)) (by rw [e]; exact Nat.not_lt.mpr hb)
theorem news_upd {h₀ h h' : Heap} {L l : Addr} {o o' : Obj} {news : List (Addr × Obj)} (N : News h₀ L h ((l, o) :: news)) (hoff : ∀ p ∈ news, p.1 ≠ l) (hs : Heap.SameBut l h h') (ho : h'.get? l = some o') : News h₀ L h' ((l, o') :: news) :=
  news_set (pre := []) N (fun _ hp => nomatch hp) hoff hs ho
theorem fr_upd {h₀ h h' : Heap} {L l : Addr} {o : Obj} {m : Str → Option Value} {news : List (Addr × Obj)} (F : Fr h₀ L h m) (N : News h₀ L h ((l, o) :: news)) (hs : Heap.SameBut l h h') : Fr h₀ L h' m :=
  F.change hs (N _ (.head _)).2.1 (N _ (.head _)).2.2
theorem news_sub {h₀ h : Heap} {L : Addr} {news news' : List (Addr × Obj)} (N : News h₀ L h news) (hs : ∀ p ∈ news', p ∈ news) : News h₀ L h news' := fun p hp => N p (hs p hp)
theorem news_d3 {h₀ h : Heap} {L : Addr} {a b c d : Addr × Obj} {r : List (Addr × Obj)} (N : News h₀ L h (a :: b :: c :: d :: r)) : News h₀ L h (a :: r) :=
  fun p hp => N p (by rcases List.mem_cons.mp hp with h | h; exact List.mem_cons.mpr (.inl h); exact .tail _ (.tail _ (.tail _ (.tail _ h))))
theorem perm4 {h₀ h : Heap} {L : Addr} {a b c d : Addr × Obj} {r : List (Addr × Obj)} (N : News h₀ L h (a :: b :: c :: d :: r)) : News h₀ L h (b :: c :: d :: ([a] ++ r)) :=
  fun p hp => N p (by simp only [List.mem_cons, List.mem_append, List.not_mem_nil, or_false] at hp ⊢; rcases hp with h | h | h | h | h <;> simp [h])
theorem news_ne {h₀ h : Heap} {L a b : Addr} {o o' : Obj} {news : List (Addr × Obj)} (N : News h₀ L h news) (ha : (a, o) ∈ news) (hb : (b, o') ∈ news) (hc : o.cls ≠ o'.cls) : a ≠ b := by
  rintro rfl
  have e := (N _ ha).1.symm.trans (N _ hb).1
  injection e with e
  exact hc (congrArg Obj.cls e)
end Mine
namespace Mine

/-- the five kinds -/
def nmk (k : Int) : Str := if k = 0 then Str.ofString "a" else if k = 1 then Str.ofString "A" else if k = 2 then Str.ofString "b" else if k = 3 then Str.ofString "B" else Str.ofString "c"
def vlk (k : Int) : Str := if k = 0 then Str.ofString "0" else if k = 1 then Str.ofString "1" else if k = 2 then Str.ofString "0" else if k = 3 then Str.ofString "1" else Str.ofString "0"
def ofk (k : Int) : Int := if k = 0 then 0 else if k = 1 then 0 else if k = 2 then 1 else if k = 3 then 1 else 2
def lck (c : Int) : Str := if c = 0 then Str.ofString "a" else if c = 1 then Str.ofString "b" else Str.ofString "c"
def Kd (k : Int) : Prop := k = 0 ∨ k = 1 ∨ k = 2 ∨ k = 3 ∨ k = 4
theorem Kd.of {k : Int} (h0 : 0 ≤ k) (h5 : k < 5) : Kd k := by unfold Kd; omega
theorem Kd.lo {k : Int} (h : Kd k) : 0 ≤ k := by unfold Kd at h; omega
theorem Kd.hi {k : Int} (h : Kd k) : k < 5 := by unfold Kd at h; omega
theorem nmk_mem (k : Int) : nmk k ∈ heads := by
  unfold nmk heads; repeat' split
  all_goals simp
theorem vlk_mem (k : Int) : vlk k ∈ vals := by
  unfold vlk vals; repeat' split
  all_goals simp
theorem ofk_lo (k : Int) : 0 ≤ ofk k := by unfold ofk; repeat' split
                                           all_goals omega
theorem ofk_hi (k : Int) : ofk k < 3 := by unfold ofk; repeat' split
                                           all_goals omega
theorem low_nmk (k : Int) : low (nmk k) = lck (ofk k) := by
  unfold nmk ofk; repeat' split
  · rw [low_a]; rfl
  · rw [low_A]; rfl
  · rw [low_b]; rfl
  · rw [low_B]; rfl
  · rw [low_c]; rfl
theorem s_ab : (Str.ofString "a" = Str.ofString "b") = False := by simp only [eq_iff_iff, iff_false]; decide +kernel
theorem s_ac : (Str.ofString "a" = Str.ofString "c") = False := by simp only [eq_iff_iff, iff_false]; decide +kernel
theorem s_bc : (Str.ofString "b" = Str.ofString "c") = False := by simp only [eq_iff_iff, iff_false]; decide +kernel
theorem lck_inj {c d : Int} (hc0 : 0 ≤ c) (hc : c < 3) (hd0 : 0 ≤ d) (hd : d < 3) : lck c = lck d ↔ c = d := by
  have h1 : c = 0 ∨ c = 1 ∨ c = 2 := by omega
  have h2 : d = 0 ∨ d = 1 ∨ d = 2 := by omega
  rcases h1 with rfl | rfl | rfl <;> rcases h2 with rfl | rfl | rfl <;> simp [lck, s_ab, s_ac, s_bc, eq_comm (a := Str.ofString "b") (b := Str.ofString "a"), eq_comm (a := Str.ofString "c") (b := Str.ofString "a"), eq_comm (a := Str.ofString "c") (b := Str.ofString "b")]

theorem lck_bne {c d : Int} (hc0 : 0 ≤ c) (hc : c < 3) (hd0 : 0 ≤ d) (hd : d < 3) : (lck c != lck d) = (c != d) := by
  have h1 : c = 0 ∨ c = 1 ∨ c = 2 := by omega
  have h2 : d = 0 ∨ d = 1 ∨ d = 2 := by omega
  rcases h1 with rfl | rfl | rfl <;> rcases h2 with rfl | rfl | rfl <;> decide +kernel

abbrev tupO (k : Int) (ty tz : Tok) (n : Nat) : Obj := { cls := .type "tuple", data := .seq #[.str (nmk k) ty, .str (vlk k) tz] n }
def pdk (k : Int) : PyData := .tuple [.str (nmk k), .str (vlk k)]
/-- v is a pair of kind k, in the ledger or in the ground -/
def PIn (h₀ : Heap) (news : List (Addr × Obj)) (v : Value) (k : Int) : Prop := ∃ a ty tz n, v = .ref a ∧ ((a, tupO k ty tz n) ∈ news ∨ h₀.get? a = some (tupO k ty tz n))
inductive RowIn (h₀ : Heap) (news : List (Addr × Obj)) : List Value → List Int → Prop
  | nil : RowIn h₀ news [] []
  | cons {v vs k ks} : PIn h₀ news v k → RowIn h₀ news vs ks → RowIn h₀ news (v :: vs) (k :: ks)
section
variable {h₀ g h : Heap} {L : Addr} {m : Str → Option Value} {news news' : List (Addr × Obj)} {v : Value} {vs ws : List Value} {k : Int} {ks js : List Int}
theorem PIn.mono (p : PIn h₀ news v k) (hg : ∀ b o, h₀.get? b = some o → g.get? b = some o) (hs : ∀ q ∈ news, q ∈ news') : PIn g news' v k := by
  obtain ⟨a, ty, tz, n, e, q⟩ := p
  exact ⟨a, ty, tz, n, e, q.elim (fun x => .inl (hs _ x)) (fun x => .inr (hg _ _ x))⟩
theorem RowIn.mono (r : RowIn h₀ news vs ks) (hg : ∀ b o, h₀.get? b = some o → g.get? b = some o) (hs : ∀ q ∈ news, q ∈ news') : RowIn g news' vs ks := by
  induction r with
  | nil => exact .nil
  | cons p _ ih => exact .cons (p.mono hg hs) ih
theorem PIn.get (p : PIn h₀ news v k) (F : Fr h₀ L h m) (N : News h₀ L h news) : ∃ a ty tz n, v = .ref a ∧ h.get? a = some (tupO k ty tz n) := by
  obtain ⟨a, ty, tz, n, e, q⟩ := p
  exact ⟨a, ty, tz, n, e, q.elim (fun x => (N _ x).1) (fun x => F.keep _ _ x)⟩
theorem PIn.reads (p : PIn h₀ news v k) (F : Fr h₀ L h m) (N : News h₀ L h news) : Reads h v (pdk k) [] := by
  obtain ⟨a, ty, tz, n, rfl, q⟩ := p.get F N
  exact Reads.tuple (as := []) q rfl rfl (ReadsAll.cons (as := []) (Reads.str _ _) (ReadsAll.cons (as := []) (Reads.str _ _) ReadsAll.nil))
theorem RowIn.reads (r : RowIn h₀ news vs ks) (F : Fr h₀ L h m) (N : News h₀ L h news) : ReadsAll h vs (ks.map pdk) [] := by
  induction r with
  | nil => exact .nil
  | cons p _ ih => exact ReadsAll.cons (as := []) (p.reads F N) ih
theorem RowIn.length (r : RowIn h₀ news vs ks) : vs.length = ks.length := by
  induction r with
  | nil => rfl
  | cons _ _ ih => simp [ih]
theorem RowIn.append (r : RowIn h₀ news vs ks) (q : RowIn h₀ news ws js) : RowIn h₀ news (vs ++ ws) (ks ++ js) := by
  induction r with
  | nil => exact q
  | cons p _ ih => exact .cons p ih
theorem RowIn.one (p : PIn h₀ news v k) : RowIn h₀ news [v] [k] := .cons p .nil
theorem RowIn.mem (r : RowIn h₀ news vs ks) (hv : v ∈ vs) : ∃ k ∈ ks, PIn h₀ news v k := by
  induction r with
  | nil => cases hv
  | cons p _ ih =>
    rcases List.mem_cons.mp hv with rfl | hv
    · exact ⟨_, .head _, p⟩
    · obtain ⟨k, hk, q⟩ := ih hv; exact ⟨k, .tail _ hk, q⟩
theorem RowIn.filter (r : RowIn h₀ news vs ks) (p : Value → Bool) (q : Int → Bool) (e : ∀ v k, PIn h₀ news v k → p v = q k) : RowIn h₀ news (vs.filter p) (ks.filter q) := by
  induction r with
  | nil => exact .nil
  | cons x _ ih =>
    rw [List.filter_cons, List.filter_cons, e _ _ x]
    split
    · exact .cons x ih
    · exact ih
end
theorem RowIn.filter2 {h₀ hX : Heap} {news nX : List (Addr × Obj)} {vs : List Value} {ks : List Int} (r : RowIn h₀ news vs ks) (p : Value → Bool) (q : Int → Bool) (e : ∀ v k, PIn h₀ news v k → p v = q k) (r2 : RowIn hX nX vs ks) : RowIn hX nX (vs.filter p) (ks.filter q) := by
  induction r with
  | nil => exact .nil
  | cons x _ ih =>
    cases r2 with
    | cons x2 r2 =>
      rw [List.filter_cons, List.filter_cons, e _ _ x]
      split
      · exact .cons x2 (ih r2)
      · exact ih r2
/-- what a deed does to a row, wherever its pairs lie -/
def RowTo (add : List (Addr × Obj)) (vs vs' : List Value) (ks ks' : List Int) : Prop := ∀ hX nX, (∀ p ∈ add, p ∈ nX) → RowIn hX nX vs ks → RowIn hX nX vs' ks'
theorem RowTo.snoc {add : List (Addr × Obj)} {vs vs' : List Value} {ks ks' : List Int} {a : Addr} {k : Int} {ty tz : Tok} {n : Nat} (r : RowTo add vs vs' ks ks') : RowTo ((a, tupO k ty tz n) :: add) vs (vs' ++ [.ref a]) ks (ks' ++ [k]) :=
  fun hX nX hs q => (r hX nX (fun p hp => hs p (.tail _ hp)) q).append (.one ⟨a, ty, tz, n, rfl, .inl (hs _ (.head _))⟩)
theorem RowTo.refl (vs : List Value) (ks : List Int) : RowTo [] vs vs ks ks := fun _ _ _ q => q
open Classical in
/-- a value is a pair whose class is not c -/
noncomputable def keepsV (h₀ : Heap) (news : List (Addr × Obj)) (c : Int) (v : Value) : Bool := decide (∃ k, PIn h₀ news v k ∧ ofk k ≠ c)
theorem pin_uniq {h₀ h : Heap} {L : Addr} {m : Str → Option Value} {news : List (Addr × Obj)} {v : Value} {k j : Int} (F : Fr h₀ L h m) (N : News h₀ L h news) (p : PIn h₀ news v k) (q : PIn h₀ news v j) : nmk k = nmk j := by
  obtain ⟨a, ty, tz, n, rfl, e⟩ := p.get F N
  obtain ⟨a', ty', tz', n', e', e2⟩ := q.get F N
  cases e'
  rw [e] at e2
  injection e2 with e2
  injection e2 with _ _ e2 _
  injection e2 with e2 _
  have := congrArg (fun x : Array Value => x[0]?) e2
  simp only [List.getElem?_toArray, List.getElem?_cons_zero, Option.some.injEq, Value.str.injEq] at this
  exact this.1
open Classical in
theorem keepsV_eq {h₀ h : Heap} {L : Addr} {m : Str → Option Value} {news : List (Addr × Obj)} {v : Value} {k c : Int} (F : Fr h₀ L h m) (N : News h₀ L h news) (p : PIn h₀ news v k) : keepsV h₀ news c v = (ofk k != c) := by
  have cls : ∀ j, PIn h₀ news v j → ofk j = ofk k := fun j q => by
    have e := congrArg low (pin_uniq F N q p)
    rw [low_nmk, low_nmk] at e
    exact (lck_inj (ofk_lo _) (ofk_hi _) (ofk_lo _) (ofk_hi _)).mp e
  unfold keepsV
  by_cases hc : ofk k = c
  · rw [decide_eq_false]
    · simp [hc]
    · rintro ⟨j, q, hj⟩; exact hj ((cls j q).trans hc)
  · rw [decide_eq_true ⟨k, p, hc⟩]
    simp [hc]

section
variable {prog : Program} {w : World} {A : Around} {E : Value → Shared → Prop} {s : Shared} {h₀ : Heap} {L : Addr} {m : Str → Option Value} {env : Env}
theorem paired_eq {vs ys : List Value} (h : Paired (fun v y => y = v) vs ys) : ys = vs := by
  induction h with
  | nil => rfl
  | cons e _ ih => rw [e, ih]
/-- a comprehension over any list -/
theorem lc_any {elt iter : Expr} {x : Str} {px : Pos} {ifs : List Expr} {scope : Scope} {cl : List (Str × Addr)} {pos : Pos} {Q : Value → Shared → Prop} (p : Value → Bool) (R : Value → Value → Prop) (zF₀ : Fr h₀ L s.heap m)
    (hh : A.handled = none) (hclos : closureFor scope env = pure cl) (hcell : ∀ y ∈ scope.names, y.2 ≠ .cell) (hkind : scope.kind = .function)
    (hnames : ∀ y ∈ scope.names, y.2 = .local → scope.names.lookup y.1 = some .local) (hx : scope.names.lookup x = some .local)
    (h : wpAny (model prog w) A (eval iter env) (fun xv s₁ => Stop (∃ news : List (Addr × Obj), ∃ (ax : Addr) (vs : List Value), xv = .ref ax ∧ s₁.heap.IsList ax vs.toArray ∧ vs.length ≤ sizeLine ∧ Fr h₀ L s₁.heap m ∧ News h₀ L s₁.heap news ∧
      (∀ C v s₂ m₂ E', s₁.heap.objs.size ≤ C → v ∈ vs → s₂.heap.Ns (compEnvC scope cl C env).locals m₂ → m₂ x = some v → (∀ b o, s₁.heap.get? b = some o → s₂.heap.get? b = some o) →
        wpAny (model prog w) A (forIn ifs true fun c r => if r = true then do let ok ← isTrue c (compEnvC scope cl C env) (eval c (compEnvC scope cl C env)); pure (ForInStep.yield ok) else pure (ForInStep.yield r))
          (fun ok s₃ => ok = p v ∧ Keeps s₂ s₃) E' s₂) ∧
      (∀ C v s₂ m₂ E', s₁.heap.objs.size ≤ C → v ∈ vs → p v = true → s₂.heap.Ns (compEnvC scope cl C env).locals m₂ → m₂ x = some v → (∀ b o, s₁.heap.get? b = some o → s₂.heap.get? b = some o) →
        wpAny (model prog w) A (eval elt (compEnvC scope cl C env)) (fun y s₃ => R v y ∧ Keeps s₂ s₃) E' s₂) ∧
      (∀ D (ys : List Value) n h' tk, Fr h₀ L h' m → News h₀ L h' ((D, listOf ys.toArray n) :: news) → (∀ p ∈ news, p.1 ≠ D) → Paired R (vs.filter p) ys → Q (.ref D) { s₁ with heap := h', toks := tk }))) E s)
    (hs : ∀ x, foldedSetIterable iter env x = pure x) :
    wpAny (model prog w) A (eval (.ListComp elt [⟨.Name x px, iter, ifs, 0⟩] scope pos) env) Q E s := by
  refine wpAny_ListComp_free p R hclos hcell hkind hnames hx (wpAny_mono h (fun xv s₁ h₁ => ?_) fun _ _ e => e) hs
  obtain ⟨news, ax, vs, rfl, hl, hsz, F, N, htests, helt, hQ⟩ := h₁
  have hlt : ax < s₁.heap.objs.size := by obtain ⟨_, e, _⟩ := hl; exact Heap.lt_size e
  have up : ∀ (s₃ : Shared), (∀ b o, b ∉ [s₁.heap.objs.size] → (s₁.heap.push { cls := .type "list_iterator", data := .fields #[.ref ax, .int 0 0] }).get? b = some o → s₃.heap.get? b = some o) → ∀ b o, s₁.heap.get? b = some o → s₃.heap.get? b = some o :=
    fun s₃ hk b o e => hk b o (fun hm => by rcases List.mem_cons.mp hm with rfl | hm; exact Nat.lt_irrefl _ (Heap.lt_size e); cases hm) (Heap.get?_push_of_some _ e)
  refine wpAny_pyIter_list hl ⟨s₁.heap.objs.size, [s₁.heap.objs.size, ax], [s₁.heap.objs.size], vs.toArray.size, _, _, rfl, Walks.list hh _ _ (Nat.ne_of_lt hlt) vs.toArray, (by rw [List.size_toArray]; exact hsz), ⟨⟨_, Heap.get?_push_size _ rfl, rfl, rfl⟩, hl.push _⟩, ?_, ⟨?_, ?_⟩, ?_⟩
  · intro b hb
    show b < (s₁.heap.push _).objs.size
    rw [Heap.size_push]
    rcases List.mem_cons.mp hb with rfl | hb
    · exact Nat.lt_succ_self _
    · rcases List.mem_cons.mp hb with rfl | hb
      · exact Nat.lt_succ_of_lt hlt
      · cases hb
  · intro C i v s₃ m₃ E' hC hP hn hm hk _
    exact htests C v s₃ m₃ E' (Nat.le_of_succ_le (by simpa [Heap.size_push] using hC)) (by simpa using Array.mem_of_getElem? hP) hn hm (up s₃ hk)
  · intro C i v s₃ m₃ E' hC hP hp hn hm hk _
    exact helt C v s₃ m₃ E' (Nat.le_of_succ_le (by simpa [Heap.size_push] using hC)) (by simpa using Array.mem_of_getElem? hP) hp hn hm (up s₃ hk)
  · intro D h' tk ys vs' hnew hlD hplD hlen hP hF hk
    have e : vs' = vs := by simpa using list_of_places hlen hP
    subst e
    have keep : ∀ b o, s₁.heap.get? b = some o → h'.get? b = some o := up { s₁ with heap := h' } hk
    have hD : s₁.heap.get? D = none := by
      cases e : s₁.heap.get? D with
      | none => rfl
      | some o' => rw [Heap.get?_push_of_some _ e] at hnew; cases hnew
    have hh0 : h₀.get? D = none := by
      cases e : h₀.get? D with
      | none => rfl
      | some o' => rw [F.keep _ _ e] at hD; cases hD
    have F' := F.keeps keep
    have N' := N.grown keep
    obtain ⟨n, N2⟩ := made_enters (D := D) (items := ys) ⟨hplD, fun p hp e => by rw [← e, (N p hp).1] at hD; cases hD⟩ F' N' hh0
    refine hQ D ys.toList n h' tk F' (by rw [Array.toArray_toList]; exact N2) (fun p hp => ?_) hF
    rintro rfl
    rw [(N p hp).1] at hD; cases hD
end
end Mine
namespace Mine

section
variable {prog : Program} {w : World} {A : Around} {E : Value → Shared → Prop} {s : Shared}
theorem set_all {l sl D : Addr} {items new : Array Value} {nl : Nat} {Q : Unit → Shared → Prop} (hne : l ≠ D) (hl : s.heap.get? l = some (listOf items nl)) (hD : s.heap.IsList D new)
    (hs : s.heap.IsSliceOf sl .none .none .none) (hz1 : items.size ≤ 1000) (hz2 : new.size ≤ 1000)
    (h : ∀ h' n', Heap.SameBut l s.heap h' → h'.get? l = some (listOf new n') → Q () { s with heap := h' }) :
    wpAny (model prog w) A (setItem (.ref l) (.ref sl) (.ref D)) Q E s := by
  have hT : s.TypeIs (.ref l) "list" := ⟨_, hl, rfl⟩
  obtain ⟨os, hos, hcs, hds⟩ := id hs
  have hTs : s.TypeIs (.ref sl) "slice" := ⟨os, hos, hcs⟩
  obtain ⟨oD, hoD, hcD, nD, hdD⟩ := id hD
  have hTD : s.TypeIs (.ref D) "list" := ⟨oD, hoD, hcD⟩
  unfold setItem
  refine wpAny_holding ?_
  refine wpAny_bind (wpAny_sequenceKey hT (by decide) ?_)
  refine wpAny_bind (wpAny_callSpecial?_slot (name := Str.ofString "__setitem__") hT PySem.F.slot_list_setitem
    (wpAny_call_entry PySem.F.slot_list_setitem hT PySem.F.entry_list_setitem ?_ (PySem.F.args_list_setitem_3 _ _ _)))
  show wpAny _ _ (Builtin.List.listSubscript? (.ref sl) >>= _) _ _ s
  refine wpAny_bind ?_
  unfold Builtin.List.listSubscript?
  refine wpAny_bind (wpAny_specialOf hTs slice_no_index ?_)
  simp only [Option.isNone_none, if_true]
  refine wpAny_pure ?_
  show wpAny _ _ (typeOf (.ref sl) >>= _) _ _ s
  refine wpAny_bind (wpAny_typeOf hTs ?_)
  rw [if_neg (by decide)]
  rw [listSliceParts_eq]
  refine wpAny_bind (wpAny_bind (wpAny_field hos hds (x := .none) rfl (wpAny_bind (wpAny_listPart .none ?_))))
  rw [if_neg (by decide)]
  refine wpAny_bind (wpAny_field hos hds (x := .none) rfl (wpAny_bind (wpAny_listPart .none ?_)))
  refine wpAny_bind (wpAny_field hos hds (x := .none) rfl (wpAny_bind (wpAny_listPart .none (wpAny_pure ?_))))
  have hsr : Builtin.List.listSameRef (.ref l) (.ref D) = false := by simpa [Builtin.List.listSameRef] using hne
  rw [if_neg (by rw [hsr]; exact Bool.false_ne_true)]
  refine wpAny_bind ?_
  unfold Builtin.List.listAllItems
  refine wpAny_bind (wpAny_typeOf hTD ?_)
  rw [if_pos (by rfl)]
  unfold Builtin.List.listItems
  refine wpAny_bind (wpAny_seqItems hoD hdD (wpAny_pure ?_))
  refine wpAny_bind (wpAny_bind (wpAny_seqItems hl rfl (wpAny_pure ?_)))
  refine wpAny_bind (wpAny_of_eq (sliceIndices_raw none none none items.size (by simp)) ?_)
  have e : sliceBounds none none none items.size = (((0 : Nat) : Int), (items.size : Int), 1) := by simp [sliceBounds]
  rw [e]
  dsimp only
  rw [if_pos (by decide)]
  refine wpAny_bind (wpAny_rule ?_)
  have hlong : Builtin.List.listTooLong (items.size + new.size) = false := by
    unfold Builtin.List.listTooLong; rw [sizeLine_eq]; exact decide_eq_false (by omega)
  rw [if_neg (by rw [hlong]; exact Bool.false_ne_true)]
  refine wpAny_bind ?_
  unfold Builtin.List.listUpdate
  have hx : ∀ xs : Array Value, xs.size = items.size → xs.extract 0 (((0 : Nat) : Int)).toNat ++ new ++ xs.extract (max (((0 : Nat) : Int)) (items.size : Int)).toNat xs.size = new := by
    intro xs hxs
    have e1 : (max (((0 : Nat) : Int)) (items.size : Int)).toNat = items.size := by omega
    rw [e1]
    apply Array.ext'
    simp [hxs]
  refine wpAny_updateSeq hl rfl ?_ (by rw [sizeLine_eq]; omega) (by rw [hx _ rfl, sizeLine_eq]; omega)
  refine wpAny_bind (wpAny_letGo (wpAny_pure ⟨_, rfl, wpAny_pure ?_⟩))
  have hu : (s.heap.update l (Obj.mapSeq fun xs => xs.extract 0 (((0 : Nat) : Int)).toNat ++ new ++ xs.extract (max (((0 : Nat) : Int)) (items.size : Int)).toNat xs.size)).get? l = some (listOf new (if new.size == items.size then nl else nl + 1)) := by
    rw [Heap.get?_update_self _ hl rfl]
    simp only [Obj.mapSeq, hx items rfl]
  exact h _ _ (Heap.SameBut.update ..) hu
end
end Mine
namespace Mine
local macro_rules | `(tactic| k_all) => `(tactic| first | assumption | exact below_ne (by assumption) (by (first | omega | (dsimp only; omega))) (fun p hp => by simp [hp]))
local macro_rules | `(tactic| walk_at "call builtin:str.lower") => `(tactic| (k_here; k_dflt (refine' lower_spec ?k1 ?_; (case k1 => assumption); k_whole); intro t9 tk9; (try dsimp only)))
local macro_rules | `(tactic| walk_at "call ref") => `(tactic| (k_here; k_dflt (refine' conv_name (hx := ?hx) ?q1 ?q2 ?q3 ?q4 ?q5 ?q6 ?q7 ?q8 ?_; (case q1 => k_asm); (case q2 => k_asm); (case q3 => k_asm); (case q4 => k_asm); (case q5 => k_asm); (case q6 => first | exact rfl | assumption); (case q7 => ktr_room); (case q8 => ktr_units); (case hx => first | assumption | exact low_mem (by assumption)); k_whole); intro h9 tk9 F9 N9; (try dsimp only); (try k_fold)))
local macro_rules | `(tactic| walk_at "call ref") => `(tactic| (k_here; k_dflt (refine' conv_val (hx := ?hx) ?q1 ?q2 ?q3 ?q4 ?q5 ?q6 ?q7 ?q8 ?_; (case q1 => k_asm); (case q2 => k_asm); (case q3 => k_asm); (case q4 => k_asm); (case q5 => k_asm); (case q6 => first | exact rfl | assumption); (case q7 => ktr_room); (case q8 => ktr_units); (case hx => assumption); k_whole); intro h9 tk9 F9 N9; (try dsimp only); (try k_fold)))
local macro_rules | `(tactic| walk_at "exec Assign cons ListComp") => `(tactic| (k_here; (with_reducible show wpAny _ _ (exec (Stmt.Assign [Expr.Subscript _ _ _] _ _) _) _ _ _); refine Stop.intro ?_))
local macro_rules | `(tactic| walk_at "exec Assign") => `(tactic| (k_here; (with_reducible show wpAny _ _ (exec (Stmt.Assign [Expr.Subscript _ _ _] (Expr.ListComp _ _ _ _) _) _) _ _ _); refine Stop.intro ?_))
set_option maxRecDepth 100000 in
set_option maxHeartbeats 8000000 in
theorem del_spec {w : World} {mean : ExcName → Option Value} {mg mb : Str → Option Value} {dp un : Nat} {gd : Option (List Code)} {cn : Str} {cs : Scope} {a : Addr} {ccd : Value} {cl : List (Str × Addr)} {outer : List Env} {A₀ : Around} {base h₀ : Heap} {L : Addr} {m : Str → Option Value} {s : Shared}
    {Q E : Value → Shared → Prop} {x dx l : Addr} {kt : Tok} {vs : List Value} {nl : Nat} {rest : List (Addr × Obj)} {y : Str} {tk : Tok} {c : Int} {ks : List Int} (B : Below A₀ base outer h₀) (F : Fr h₀ L s.heap m) (X : (hd.heap_39 w.params).In h₀) (N : News h₀ L s.heap ((l, listOf vs.toArray nl) :: (x, instObj 184 dx) :: (dx, dictOf [⟨PyData.keyHash w.params (Str.ofString "_headers"), .str (Str.ofString "_headers") kt, .ref l⟩] 1) :: rest))
    (T : Top hd.view_39 (looseW hd.view_39 [Str.ofString "tspecials", Str.ofString "_name_disallowed_re", Str.ofString "_value_disallowed_re", Str.ofString "_formatparam"]) mean mg mb h₀)
    (hk : cs.kind = .function) (hdp : dp + 3 < recursionLimit) (hu : un + 30 < cLine) (hz : vs.length ≤ 1000) (hy : y ∈ heads) (hc : low y = lck c) (hc0 : 0 ≤ c) (hc3 : c < 3) (hrow : RowIn h₀ rest vs ks) (hoff : ∀ p ∈ rest, p.1 ≠ l)
    (hret : ∀ vs' nl' h' tk', Fr h₀ L h' m → News h₀ L h' ((l, listOf vs'.toArray nl') :: (x, instObj 184 dx) :: (dx, dictOf [⟨PyData.keyHash w.params (Str.ofString "_headers"), .str (Str.ofString "_headers") kt, .ref l⟩] 1) :: rest) → RowTo [] vs vs' ks (ks.filter fun k => ofk k != c) → Q .none { s with heap := h', toks := tk' }) :
    wpAny (model Challenge.rw_dj5017_01.row.prog w) (ktrTop dp un gd cn cs L a ccd cl outer) (call (.ref 102) [.ref x, .str y tk] []) Q E s := by
  w_top off
  revert X; k_fill; intro X
  refine wpAny_call ?_
  (refine' code_defC ?k1 ?k2 ?k3 ?k4 ?k5 ?kA ?kF ?kK ?k6 ?k7 ?k8 ?k9 ?kB ?kD ?_ ?c2 ?c3 ?c4; (case kA => exact rfl); (case kF => exact rfl); (case kK => assumption); (case k1 => k_asm); (case k2 => k_asm); (case k3 => k_asm); (case k4 => k_asm); (case k5 => k_asm); (case k6 => k_is); (case k7 => k_is); (case k8 => ktr_room); (case k9 => first | exact BindsTo.of_eq rfl | exact binds_K (by k_in) rfl (by k_is) rfl rfl rfl); (case kB => exact rfl); (case kD => decide +kernel); (case c2 => exact rfl); (case c3 => exact rfl); (case c4 => exact rfl); k_whole; intro g' L' h' tk' cells' FG' F' N' Y' B' X' T' l1; have lw := l1; (try k_lt l1); k_cells Y'; (try simp only [List.cons_append, List.nil_append] at N'); (try dsimp only); (try k_lift B'); (try k_fold))

  k_steps
  refine stop_of ?_
  refine wpAny_Assign_Subscript ?_
  rename News _ _ _ _ => NN
  rename Fr _ _ _ _ => FF
  have kk : ∀ v k, PIn h₀ rest v k → keepsV g' rest c v = (ofk k != c) := fun v k p => keepsV_eq FF (news_sub NN (fun q hq => .tail _ (.tail _ (.tail _ (.tail _ hq))))) (p.mono FG'.keep (fun q hq => hq))
  (with_reducible refine' lc_any (keepsV g' rest c) (fun v y => y = v) FF ?hh ?hclos ?hcell ?hkind ?hnames ?hx ?h ?hs)
  (case hh => with_unfolding_all rfl)
  (case hclos => with_unfolding_all rfl)
  (case hcell => decide)
  (case hkind => with_unfolding_all rfl)
  (case hnames => decide)
  (case hx => with_unfolding_all rfl)
  (case hs => intro _; with_unfolding_all rfl)
  k_steps
  refine stop_of ?_
  rename News _ _ _ _ => NN
  rename Fr _ _ _ _ => FF
  refine ⟨_, l, vs, rfl, NN.isList (.tail _ (.head _)), (by rw [sizeLine_eq]; omega), FF, NN, ?_, ?_, ?_⟩
  · intro C v s₂ m₂ E' hC hv hns hmv hk2
    have FF2 := FF.keeps hk2
    have NN2 := NN.grown hk2
    have FC := frInComp hns hk2 hC
    k_steps
    obtain ⟨k, hkk, pk⟩ := hrow.mem hv
    obtain ⟨av, ty, tz, nt, hva, hget⟩ := (pk.mono FG'.keep (fun q hq => .tail _ (.tail _ (.tail _ (.tail _ hq))))).get FF2 NN2
    rw [hva]
    refine item_tuple (j := 0) (x := .str (nmk k) ty) ⟨_, hget, rfl, nt, rfl⟩ (by decide) (by decide) rfl rfl ?_
    have hkm := nmk_mem k
    k_steps
    · rw [kk v k pk, low_nmk, hc]
      exact lck_bne (ofk_lo _) (ofk_hi _) hc0 hc3
    · exact ⟨_, _, rfl, fun _ _ e => e⟩
  · intro C v s₂ m₂ E' hC hv hpv hns hmv hk2
    k_steps
    exact ⟨_, _, rfl, fun _ _ e => e⟩
  · intro D ys n h2 tk2 F2 N2 hne hp
    k_steps
    rename Fr _ _ _ _ => F3
    rename News _ _ _ _ => N3
    have hlD : l ≠ D := hne _ (.tail _ (.head _))
    have hys := paired_eq hp
    have hyl : ys.length ≤ vs.length := by rw [hys]; exact List.length_filter_le _ _
    refine set_all (items := vs.toArray) (new := ys.toArray) (nl := nl) hlD (Heap.get?_push_of_some _ (N3 _ (.tail _ (.tail _ (.head _)))).1) ((N3.isList (.head _)).push _) (Heap.IsSliceOf.new _ _ _ _) (by simpa using hz) (by simp only [List.size_toArray]; omega) ?_
    intro h4 n4 hsb4 hg4
    have N3' := news_sub (N3.push F3 { cls := .type "slice", data := .fields #[.none, .none, .none] }) (news' := (l, listOf vs.toArray nl) :: (x, instObj 184 dx) :: (dx, dictOf [⟨PyData.keyHash w.params (Str.ofString "_headers"), .str (Str.ofString "_headers") kt, .ref l⟩] 1) :: rest) (fun q hq => .tail _ (.tail _ (.tail _ hq)))
    have N4 := news_upd N3' (List.forall_mem_cons.mpr ⟨news_ne N3' (.tail _ (.head _)) (.head _) (by simp [instObj]), List.forall_mem_cons.mpr ⟨news_ne N3' (.tail _ (.tail _ (.head _))) (.head _) (by simp), hoff⟩⟩) hsb4 hg4
    have F4 := fr_upd (F3.push _) N3' hsb4
    clear F3 N3 N3' FF NN
    k_steps
    refine hret ys n4 _ _ (by assumption) (by assumption) ?_
    rw [hys]
    exact fun hX nX _ q => hrow.filter2 _ _ kk q
end Mine
namespace Mine

theorem del_own {M : Model} {A : Around} {E : Value → Shared → Prop} {s : Shared} {K : Frag} {x C L f : Addr} {h₀ : Heap} {m : Str → Option Value} {ox : Obj} {od : Option Obj} {i : Value}
    {Q : Unit → Shared → Prop} (F : Fr h₀ L s.heap m) (X₀ : K.In h₀) (I : InstAt s.heap x ox C od) (hq : noSeq K C = true) (hs : findIn K (.ref C) (Str.ofString "__delitem__") = some (some (.ref f))) (hf : isFn K (.ref f) = true)
    (h : wpAny M A (call (.ref f) [.ref x, i]) (fun _ s' => Q () s') E s) : wpAny M A (delItem (.ref x) i) Q E s := by
  have X := X₀.keeps F.keep
  unfold delItem sequenceKey
  refine wpAny_holding (wpAny_bind (wpAny_bind (I.type.here ?_)))
  refine wpAny_bind ((anyM_none X hq).here ?_)
  rw [if_pos (show (!false) = true from rfl)]
  exact wpAny_pure (wpAny_bind (special_fn X I hs (beq_iff_eq.mp hf) (wpAny_mono h (fun _ _ z => wpAny_pure z) fun _ _ z => z)))
local macro_rules | `(tactic| x_close) => `(tactic| (rename (∀ _ _, _) => hq9; exact hq9 _ _))
set_option maxRecDepth 100000 in
set_option maxHeartbeats 8000000 in
theorem join_one {w : World} {A : Around} {s : Shared} {t0 tj : Tok} {x : Str} {D : Addr} {n : Nat} (hx : x ∈ vals) (hD : s.heap.get? D = some (listOf #[.str x tj] n))
    {Q E : Value → Shared → Prop} (hu : A.units + 8 < cLine) (h : ∀ t tk', Q (.str x t) { s with toks := tk' }) :
    wpAny (model Challenge.rw_dj5017_01.row.prog w) A (call (.builtin "str.join") [.str (Str.ofString "; ") t0, .ref D] []) Q E s := by
  simp only [vals, List.mem_cons, List.not_mem_nil, or_false] at hx
  have hD2 : s.heap.get? D = some (Obj.mk (.type "list") none (.seq #[.str x tj] n) #[]) := hD
  clear hD
  rcases hx with rfl | rfl <;> x_run
theorem deed_end {h₀ h : Heap} {L l D : Addr} {m : Str → Option Value} {k : Int} {ty tz : Tok} {n n9 : Nat} {vs vs9 : List Value} {ks ks9 : List Int} {c d : Addr × Obj} {rest : List (Addr × Obj)} {tk : Nat} (P : Heap → Nat → Prop)
    (F : Fr h₀ L h m) (N : News h₀ L h ((D, tupO k ty tz n) :: (l, listOf (vs9.toArray.push (.ref D)) n9) :: c :: d :: rest)) (hoff : ∀ p ∈ rest, p.1 ≠ l) (r : RowTo [] vs vs9 ks ks9)
    (hret : ∀ vs' nl' add h' tk', Fr h₀ L h' m → News h₀ L h' ((l, listOf vs'.toArray nl') :: c :: d :: (add ++ rest)) → (∀ p ∈ add ++ rest, p.1 ≠ l) → RowTo add vs vs' ks (ks9 ++ [k]) → (∀ p ∈ add, ∃ ty tz n, p.2 = tupO k ty tz n) → P h' tk') : P h tk := by
  simp only [List.push_toArray] at N
  exact hret (vs9 ++ [.ref D]) n9 [(D, tupO k ty tz n)] h tk F (perm4 N) (List.forall_mem_cons.mpr ⟨news_ne N (.head _) (.tail _ (.head _)) (by simp), hoff⟩) r.snoc (fun p hp => by rw [List.mem_singleton.mp hp]; exact ⟨ty, tz, n, rfl⟩)
theorem filt_len {h₀ : Heap} {rest : List (Addr × Obj)} {vs vs' : List Value} {ks : List Int} {p : Int → Bool} {n : Nat} (r : RowTo [] vs vs' ks (ks.filter p)) (q : RowIn h₀ rest vs ks) (h : vs.length ≤ n) : vs'.length ≤ n := by
  have h1 := (r h₀ rest (fun _ hp => nomatch hp) q).length
  have h2 := q.length
  have h3 := List.length_filter_le p ks
  omega
end Mine
namespace Mine
local macro_rules | `(tactic| k_all) => `(tactic| first | assumption | exact below_ne (by assumption) (by (first | omega | (dsimp only; omega))) (fun p hp => by simp [hp]))
local macro_rules | `(tactic| walk_at "call builtin:str.lower") => `(tactic| (k_here; k_dflt (refine' lower_spec ?k1 ?_; (case k1 => assumption); k_whole); intro t9 tk9; (try dsimp only)))
local macro_rules | `(tactic| walk_at "call ref") => `(tactic| (k_here; k_dflt (refine' conv_name (hx := ?hx) ?q1 ?q2 ?q3 ?q4 ?q5 ?q6 ?q7 ?q8 ?_; (case q1 => k_asm); (case q2 => k_asm); (case q3 => k_asm); (case q4 => k_asm); (case q5 => k_asm); (case q6 => first | exact rfl | assumption); (case q7 => ktr_room); (case q8 => ktr_units); (case hx => first | assumption | exact nmk_mem _ | exact low_mem (by assumption)); k_whole); intro h9 tk9 F9 N9; (try dsimp only); (try k_fold)))
local macro_rules | `(tactic| walk_at "call ref") => `(tactic| (k_here; k_dflt (refine' conv_val (hx := ?hx) ?q1 ?q2 ?q3 ?q4 ?q5 ?q6 ?q7 ?q8 ?_; (case q1 => k_asm); (case q2 => k_asm); (case q3 => k_asm); (case q4 => k_asm); (case q5 => k_asm); (case q6 => first | exact rfl | assumption); (case q7 => ktr_room); (case q8 => ktr_units); (case hx => first | assumption | exact vlk_mem _); k_whole); intro h9 tk9 F9 N9; (try dsimp only); (try k_fold)))
local macro_rules | `(tactic| k_room) => `(tactic| ktr_room)
local macro_rules | `(tactic| walk_at "call builtin:list.append") => `(tactic| (k_here; (with_reducible show wpAny _ _ (call (Value.builtin _) [Value.ref _, _]) _ _ _); k_dflt (refine' append_K ?k1 ?k2 ?k3 ?_ ?z; (case k1 => k_asm); (case k2 => k_asm); (case k3 => k_upd); (case z => first | size_fits | (simp only [List.size_toArray]; rw [sizeLine_eq]; omega)); k_whole); intro h' F' N'; (try k_sweep)))
local macro_rules | `(tactic| walk_at "call ref") => `(tactic| (k_here; k_dflt (refine' del_spec (hz := ?hz) (hy := ?hy) (hc := ?hc) (hc0 := ?hc0) (hc3 := ?hc3) (hrow := ?hrow) (hoff := ?hoff) ?q1 ?q2 ?q3 ?q4 ?q5 ?q6 ?q7 ?q8 ?_; (case q1 => k_asm); (case q2 => k_asm); (case q3 => k_asm); (case q4 => k_asm); (case q5 => k_asm); (case q6 => first | exact rfl | assumption); (case q7 => ktr_room); (case q8 => ktr_units); (case hz => omega); (case hy => exact nmk_mem _); (case hc => exact low_nmk _); (case hc0 => exact ofk_lo _); (case hc3 => exact ofk_hi _); (case hrow => exact RowIn.mono (by assumption) (Fr.keep (by assumption)) (fun _ h => h)); (case hoff => assumption); k_whole); intro vs9 nl9 h9 tk9 F9 N9 R9; (try dsimp only); (try k_fold); (have hv9 := filt_len R9 (by assumption) (n := 900) (by assumption))))
local macro_rules | `(tactic| walk_at "delItem ref str") => `(tactic| (k_here; (with_reducible show wpAny _ _ (delItem (Value.ref _) _) _ _ _); k_dflt (refine' del_own ?F ?X ?I ?hQ ?hS ?hF ?_; (case F => k_asm); (case X => k_asm); (case I => k_inst); (case hS => k_is); (case hF => k_is); (case hQ => k_is); k_whole)))
local macro_rules | `(tactic| walk_at "delItem ref") => `(tactic| (k_here; (with_reducible show wpAny _ _ (delItem (Value.ref _) _) _ _ _); k_dflt (refine' del_own ?F ?X ?I ?hQ ?hS ?hF ?_; (case F => k_asm); (case X => k_asm); (case I => k_inst); (case hS => k_is); (case hF => k_is); (case hQ => k_is); k_whole)))
local macro_rules | `(tactic| walk_at "call builtin:str.join") => `(tactic| (k_here; k_dflt (refine' join_one (x := vlk _) ?k1 ?k2 ?k3 ?_; (case k1 => exact vlk_mem _); (case k2 => (refine' News.get ?n ?m; (case n => k_asm); (case m => k_mem))); (case k3 => ktr_units); k_whole); intro t9 tk9; (try dsimp only)))
set_option maxRecDepth 100000 in
set_option maxHeartbeats 8000000 in
theorem set_spec {w : World} {mean : ExcName → Option Value} {mg mb : Str → Option Value} {dp un : Nat} {gd : Option (List Code)} {cn : Str} {cs : Scope} {a : Addr} {ccd : Value} {cl : List (Str × Addr)} {outer : List Env} {A₀ : Around} {base h₀ : Heap} {L : Addr} {m : Str → Option Value} {s : Shared}
    {Q E : Value → Shared → Prop} {x dx l : Addr} {kt : Tok} {vs : List Value} {nl : Nat} {rest : List (Addr × Obj)} {k : Int} {ks : List Int} {tk tj : Tok} (B : Below A₀ base outer h₀) (F : Fr h₀ L s.heap m) (X : (hd.heap_39 w.params).In h₀) (N : News h₀ L s.heap ((l, listOf vs.toArray nl) :: (x, instObj 184 dx) :: (dx, dictOf [⟨PyData.keyHash w.params (Str.ofString "_headers"), .str (Str.ofString "_headers") kt, .ref l⟩] 1) :: rest))
    (T : Top hd.view_39 (looseW hd.view_39 [Str.ofString "tspecials", Str.ofString "_name_disallowed_re", Str.ofString "_value_disallowed_re", Str.ofString "_formatparam"]) mean mg mb h₀)
    (hk : cs.kind = .function) (hdp : dp + 5 < recursionLimit) (hu : un + 60 < cLine) (hz : vs.length ≤ 900) (hrow : RowIn h₀ rest vs ks) (hoff : ∀ p ∈ rest, p.1 ≠ l)
    (hret : ∀ vs' nl' add h' tk', Fr h₀ L h' m → News h₀ L h' ((l, listOf vs'.toArray nl') :: (x, instObj 184 dx) :: (dx, dictOf [⟨PyData.keyHash w.params (Str.ofString "_headers"), .str (Str.ofString "_headers") kt, .ref l⟩] 1) :: (add ++ rest)) → (∀ p ∈ add ++ rest, p.1 ≠ l) → RowTo add vs vs' ks ((ks.filter fun j => ofk j != ofk k) ++ [k]) → (∀ p ∈ add, ∃ ty tz n, p.2 = tupO k ty tz n) → Q .none { s with heap := h', toks := tk' }) :
    wpAny (model Challenge.rw_dj5017_01.row.prog w) (ktrTop dp un gd cn cs L a ccd cl outer) (call (.ref 97) [.ref x, .str (nmk k) tk, .str (vlk k) tj] []) Q E s := by
  w_top off
  revert X; k_fill; intro X
  have hxl := neN (news_ne N (.tail _ (.head _)) (.head _) (by simp [instObj]))
  have hdl := neN (news_ne N (.tail _ (.tail _ (.head _))) (.head _) (by simp))
  have hxd := neN (news_ne N (.tail _ (.head _)) (.tail _ (.tail _ (.head _))) (by simp [instObj]))
  refine wpAny_call ?_
  k_dflt cell_enter
  k_steps
  rename Fr h₀ _ _ _ => F9
  rename News h₀ _ _ _ => N9
  rename RowTo _ _ _ _ _ => R9
  exact deed_end (fun h' tk' => Q .none { s with heap := h', toks := tk' }) F9 N9 hoff R9 hret
set_option maxRecDepth 100000 in
set_option maxHeartbeats 8000000 in
theorem add_spec {w : World} {mean : ExcName → Option Value} {mg mb : Str → Option Value} {dp un : Nat} {gd : Option (List Code)} {cn : Str} {cs : Scope} {a : Addr} {ccd : Value} {cl : List (Str × Addr)} {outer : List Env} {A₀ : Around} {base h₀ : Heap} {L : Addr} {m : Str → Option Value} {s : Shared}
    {Q E : Value → Shared → Prop} {x dx l : Addr} {kt : Tok} {vs : List Value} {nl : Nat} {rest : List (Addr × Obj)} {k : Int} {ks : List Int} {tk tj : Tok} (B : Below A₀ base outer h₀) (F : Fr h₀ L s.heap m) (X : (hd.heap_39 w.params).In h₀) (N : News h₀ L s.heap ((l, listOf vs.toArray nl) :: (x, instObj 184 dx) :: (dx, dictOf [⟨PyData.keyHash w.params (Str.ofString "_headers"), .str (Str.ofString "_headers") kt, .ref l⟩] 1) :: rest))
    (T : Top hd.view_39 (looseW hd.view_39 [Str.ofString "tspecials", Str.ofString "_name_disallowed_re", Str.ofString "_value_disallowed_re", Str.ofString "_formatparam"]) mean mg mb h₀)
    (hk : cs.kind = .function) (hdp : dp + 5 < recursionLimit) (hu : un + 60 < cLine) (hz : vs.length ≤ 900) (hrow : RowIn h₀ rest vs ks) (hoff : ∀ p ∈ rest, p.1 ≠ l)
    (hret : ∀ vs' nl' add h' tk', Fr h₀ L h' m → News h₀ L h' ((l, listOf vs'.toArray nl') :: (x, instObj 184 dx) :: (dx, dictOf [⟨PyData.keyHash w.params (Str.ofString "_headers"), .str (Str.ofString "_headers") kt, .ref l⟩] 1) :: (add ++ rest)) → (∀ p ∈ add ++ rest, p.1 ≠ l) → RowTo add vs vs' ks (ks ++ [k]) → (∀ p ∈ add, ∃ ty tz n, p.2 = tupO k ty tz n) → Q .none { s with heap := h', toks := tk' }) :
    wpAny (model Challenge.rw_dj5017_01.row.prog w) (ktrTop dp un gd cn cs L a ccd cl outer) (call (.ref 181) [.ref x, .str (nmk k) tk, .str (vlk k) tj] []) Q E s := by
  w_top off
  revert X; k_fill; intro X
  have hxl := neN (news_ne N (.tail _ (.head _)) (.head _) (by simp [instObj]))
  have hdl := neN (news_ne N (.tail _ (.tail _ (.head _))) (.head _) (by simp))
  have hxd := neN (news_ne N (.tail _ (.head _)) (.tail _ (.tail _ (.head _))) (by simp [instObj]))
  refine wpAny_call ?_
  obtain ⟨kd1, nm1, ig1, ic1, mr1⟩ := cs
  cases hk
  k_dflt k_enter

  k_steps
  rename News _ _ _ _ => NX
  have NX2 := news_d3 NX
  clear NX
  k_steps
  rename Fr h₀ _ _ _ => F9
  rename News h₀ _ _ _ => N9
  exact deed_end (fun h' tk' => Q .none { s with heap := h', toks := tk' }) F9 N9 hoff (RowTo.refl vs ks) hret
end Mine
namespace Mine

section
variable {prog : Program} {w : World} {A : Around} {E : Value → Shared → Prop} {s : Shared} {env : Env} {h₀ : Heap}
/-- a loop over a row's pairs whose turns leave the ledger as it stands -/
theorem for_pairs {Q : Flow → Shared → Prop} {xk xv : Str} {pk pv pt pos : Pos} {x1 : Nat} {iter : Expr} {body : List Stmt} {m₀ : Str → Option Value} (zF₀ : Fr h₀ env.locals s.heap m₀) (hh : A.handled = none)
    (hxk : env.kindOf xk = some .local) (hxv : env.kindOf xv = some .local) (hkv : xk ≠ xv)
    (hp : (env.scope.kind == .class || (env.scope.kind == .module && env.locals != env.globals)) = false)
    (h : wpAny (model prog w) A (eval iter env) (fun xl s₁ => Stop (∃ (l : Addr) (vs : List Value) (ks : List Int) (nl : Nat) (news : List (Addr × Obj)) (m : Str → Option Value), xl = .ref l ∧ (l, listOf vs.toArray nl) ∈ news ∧ RowIn h₀ news vs ks ∧
      Fr h₀ env.locals s₁.heap m ∧ News h₀ env.locals s₁.heap news ∧
      (∀ k ty tz h tk I oI, k ∈ ks → Fr h₀ env.locals h (fun y => if y = xv then some (.str (vlk k) tz) else if y = xk then some (.str (nmk k) ty) else m y) → News h₀ env.locals h ((I, oI) :: news) →
        wpAny (model prog w) A (execs body env) (fun f s₂ => Stop (f = .next ∧ ∃ h' tk', s₂ = { s₁ with heap := h', toks := tk' } ∧ (∃ m₂ : Str → Option Value, Fr h₀ env.locals h' m₂ ∧ ∀ y, y ≠ xk → y ≠ xv → m₂ y = m y) ∧ News h₀ env.locals h' ((I, oI) :: news))) E { s₁ with heap := h, toks := tk }) ∧
      (∀ h' tk (u : Str → Option Value), Fr h₀ env.locals h' (fun y => if y = xv then u y else if y = xk then u y else m y) → News h₀ env.locals h' news → Q .next { s₁ with heap := h', toks := tk }))) E s)
    (hs : ∀ x, foldedSetIterable iter env x = pure x) (hE : PassesOwn (model prog w) A env E) :
    wpAny (model prog w) A (exec (.For (.Tuple [.Name xk pk, .Name xv pv] x1 pt) iter body [] pos) env) Q E s := by
  refine wpAny_For (wpAny_mono h (fun xl s₁ h₁ => ?_) fun _ _ e => e) hs
  obtain ⟨l, vs, ks, nl, news, m, rfl, hl, hrow, F, N, turn, done⟩ := h₁
  have hls : s₁.heap.IsList l vs.toArray := N.isList hl
  refine wpAny_pyIter_list hls ?_
  let I := s₁.heap.objs.size
  have hI : ∀ b o, s₁.heap.get? b = some o → b ≠ I := fun b o e => Nat.ne_of_lt (Heap.lt_size e)
  have hI0 : h₀.get? I = none := by
    cases e : h₀.get? I with
    | none => rfl
    | some o => exact absurd rfl (hI _ _ (F.keep _ _ e))
  have hlI : l ≠ I := hI _ _ (N _ hl).1
  have hLI : env.locals ≠ I := by obtain ⟨oL, _, _, hoL, _⟩ := F.ns; exact hI _ _ hoL
  have F0 := F.push { cls := .type "list_iterator", data := .fields #[.ref l, .int 0 0] }
  have N0 : News h₀ env.locals (s₁.heap.push { cls := .type "list_iterator", data := .fields #[.ref l, .int 0 0] }) news := fun p hp => ⟨Heap.get?_push_of_some _ (N p hp).1, (N p hp).2⟩
  refine codeAny_forLoop_any
    (fun k s' => ∃ H tk m' i, s' = { s₁ with heap := H, toks := tk } ∧ H.IsListIter I l i ∧ Fr h₀ env.locals H m' ∧ News h₀ env.locals H news ∧ (∀ y, y ≠ xk → y ≠ xv → m' y = m y) ∧ i ≤ vs.length ∧ k = vs.length + 1 - i) ?_ (vs.length + 1)
    ⟨_, s₁.toks, m, 0, rfl, ⟨_, Heap.get?_push_size _ rfl, rfl, rfl⟩, F0, N0, fun _ _ _ => rfl, Nat.zero_le _, rfl⟩
  rintro n s' ⟨H, tk, m', i, rfl, hit, F', N', hm, hi, rfl⟩
  by_cases hlt : i < vs.length
  · obtain ⟨k, hk, pk⟩ := hrow.mem (v := vs[i]) (List.getElem_mem hlt)
    obtain ⟨T, ty, tz, nt, hv, _⟩ := pk.get F' N'
    refine wpAny_pyNext_list_item hit (N'.isList hl) (x := vs[i]) (by simp [hlt]) fun h₁ hit₁ hs₁ => ?_
    dsimp only
    rw [hv]
    have F1 : Fr h₀ env.locals h₁ m' := F'.change hs₁ hLI.symm hI0
    have N1 : News h₀ env.locals h₁ news := fun p hp => ⟨(hs₁.2 _ (hI _ _ (N p hp).1)).trans (N' p hp).1, (N' p hp).2⟩
    refine wpAny_letOwnedTupleGo_listiter hit₁ ?_
    obtain ⟨T', ty', tz', nt', hv', hget⟩ := pk.get F1 N1
    rw [hv] at hv'
    cases hv'
    refine wpAny_assign_Tuple hh ⟨_, hget, rfl, nt', rfl⟩ rfl rfl fun h₂ hx₂ => ?_
    have up : ∀ b o, h₁.get? b = some o → h₂.get? b = some o := fun b o x => hx₂ b o (Nat.ne_of_lt (Heap.lt_size x)) x
    have F2 := F1.keeps up
    have N2 := N1.grown up
    show wpAny _ A (do holding [Value.str (vlk k) tz'] (assign (.Name xk _) env (.str (nmk k) ty')); do holding [] (assign (.Name xv _) env (.str (vlk k) tz')); pure ()) _ _ _
    refine wpAny_bind (wpAny_holding (wpAny_assign_Name (wpAny_storeName_local hxk F2.ns (fun h₃ hn₃ hs₃ => ?_) hp)))
    have F3 := F2.set hn₃ hs₃
    refine wpAny_bind (wpAny_holding (wpAny_assign_Name (wpAny_storeName_local hxv F3.ns (fun h₄ hn₄ hs₄ => wpAny_pure ?_) hp)))
    have F4 := F3.set hn₄ hs₄
    have N4 := (N2.set hs₃).set hs₄
    obtain ⟨oI, hoI, hcI, hdI⟩ := hit₁
    have hoI4 : h₄.get? I = some oI := (hs₄.2 I hLI.symm).trans ((hs₃.2 I hLI.symm).trans (up _ _ hoI))
    have NI : News h₀ env.locals h₄ ((I, oI) :: news) := by
      intro p hp
      rcases List.mem_cons.mp hp with rfl | hp
      · exact ⟨hoI4, hLI.symm, hI0⟩
      · exact N4 p hp
    have em : (fun y => if y = xv then some (Value.str (vlk k) tz') else if y = xk then some (Value.str (nmk k) ty') else m' y) = fun y => if y = xv then some (Value.str (vlk k) tz') else if y = xk then some (Value.str (nmk k) ty') else m y := by
      funext y
      by_cases h1 : y = xv
      · simp only [if_pos h1]
      · simp only [if_neg h1]
        by_cases h2 : y = xk
        · simp only [if_pos h2]
        · simp only [if_neg h2]; exact hm y h2 h1
    rw [em] at F4
    refine wpAny_mono (wpAny_passesOwn hE (turn k ty' tz' h₄ _ I oI hk F4 NI)) (fun f s₃ h₃ => ?_) fun _ _ e => e
    obtain ⟨rfl, h', tk', rfl, ⟨m₂, F5, hm5⟩, N5⟩ := h₃
    exact ⟨vs.length + 1 - (i + 1), by omega, h', tk', m₂, i + 1, rfl, ⟨oI, (N5 _ (.head _)).1, hcI, hdI⟩, F5, news_sub N5 (fun _ hq => .tail _ hq), hm5, hlt, rfl⟩
  · have hin : i = vs.length := by omega
    subst hin
    refine wpAny_pyNext_list_end hh hit (N'.isList hl) (by simp) fun h₁ hs₁ => wpAny_execs_nil ?_
    have F1 : Fr h₀ env.locals h₁ m' := ⟨F'.ns.at' fun o e => hs₁ _ o hLI e, fun b o e => hs₁ b o (fun q => by rw [q, hI0] at e; cases e) (F'.keep b o e), F'.above⟩
    have N1 : News h₀ env.locals h₁ news := fun p hp => ⟨hs₁ _ _ (hI _ _ (N p hp).1) (N' p hp).1, (N' p hp).2⟩
    have em : (fun y => if y = xv then m' y else if y = xk then m' y else m y) = m' := by
      funext y
      by_cases h1 : y = xv
      · simp only [if_pos h1]
      · simp only [if_neg h1]
        by_cases h2 : y = xk
        · simp only [if_pos h2]
        · simp only [if_neg h2]; exact (hm y h2 h1).symm
    exact done h₁ tk m' (by rw [em]; exact F1) N1
end
end Mine
namespace Mine
local macro_rules | `(tactic| k_all) => `(tactic| first | assumption | exact below_ne (by assumption) (by (first | omega | (dsimp only; omega))) (fun p hp => by simp [hp]))
local macro_rules | `(tactic| walk_at "call builtin:str.lower") => `(tactic| (k_here; k_dflt (refine' lower_spec ?k1 ?_; (case k1 => assumption); k_whole); intro t9 tk9; (try dsimp only)))
local macro_rules | `(tactic| walk_at "call ref") => `(tactic| (k_here; k_dflt (refine' conv_name (hx := ?hx) ?q1 ?q2 ?q3 ?q4 ?q5 ?q6 ?q7 ?q8 ?_; (case q1 => k_asm); (case q2 => k_asm); (case q3 => k_asm); (case q4 => k_asm); (case q5 => k_asm); (case q6 => first | exact rfl | assumption); (case q7 => ktr_room); (case q8 => ktr_units); (case hx => first | assumption | exact nmk_mem _ | exact low_mem (by assumption)); k_whole); intro h9 tk9 F9 N9; (try dsimp only); (try k_fold)))
local macro_rules | `(tactic| walk_at "call ref") => `(tactic| (k_here; k_dflt (refine' conv_val (hx := ?hx) ?q1 ?q2 ?q3 ?q4 ?q5 ?q6 ?q7 ?q8 ?_; (case q1 => k_asm); (case q2 => k_asm); (case q3 => k_asm); (case q4 => k_asm); (case q5 => k_asm); (case q6 => first | exact rfl | assumption); (case q7 => ktr_room); (case q8 => ktr_units); (case hx => first | assumption | exact vlk_mem _); k_whole); intro h9 tk9 F9 N9; (try dsimp only); (try k_fold)))
local macro_rules | `(tactic| k_room) => `(tactic| ktr_room)
local macro_rules | `(tactic| walk_at "call builtin:list.append") => `(tactic| (k_here; (with_reducible show wpAny _ _ (call (Value.builtin _) [Value.ref _, _]) _ _ _); k_dflt (refine' append_K ?k1 ?k2 ?k3 ?_ ?z; (case k1 => k_asm); (case k2 => k_asm); (case k3 => k_upd); (case z => first | size_fits | (simp only [List.size_toArray]; rw [sizeLine_eq]; omega)); k_whole); intro h' F' N'; (try k_sweep)))
local macro_rules | `(tactic| walk_at "exec For Tuple Name") => `(tactic| (k_here; (with_reducible show wpAny _ _ (exec (Stmt.For (Expr.Tuple _ _ _) (Expr.Name _ _) _ _ _) _) _ _ _); refine Stop.intro ?_))
local macro_rules | `(tactic| walk_at "exec For") => `(tactic| (k_here; (with_reducible show wpAny _ _ (exec (Stmt.For (Expr.Tuple _ _ _) (Expr.Name _ _) _ _ _) _) _ _ _); refine Stop.intro ?_))
set_option maxRecDepth 100000 in
set_option maxHeartbeats 8000000 in
theorem items_spec {w : World} {mean : ExcName → Option Value} {mg mb : Str → Option Value} {dp un : Nat} {gd : Option (List Code)} {cn : Str} {cs : Scope} {a : Addr} {ccd : Value} {cl : List (Str × Addr)} {outer : List Env} {A₀ : Around} {base h₀ : Heap} {L : Addr} {m : Str → Option Value} {s : Shared}
    {Q E : Value → Shared → Prop} {x dx l : Addr} {kt : Tok} {vs : List Value} {nl : Nat} {rest : List (Addr × Obj)} (B : Below A₀ base outer h₀) (F : Fr h₀ L s.heap m) (X : (hd.heap_39 w.params).In h₀) (N : News h₀ L s.heap ((l, listOf vs.toArray nl) :: (x, instObj 184 dx) :: (dx, dictOf [⟨PyData.keyHash w.params (Str.ofString "_headers"), .str (Str.ofString "_headers") kt, .ref l⟩] 1) :: rest))
    (T : Top hd.view_39 (looseW hd.view_39 [Str.ofString "tspecials", Str.ofString "_name_disallowed_re", Str.ofString "_value_disallowed_re", Str.ofString "_formatparam"]) mean mg mb h₀)
    (hk : cs.kind = .function) (hdp : dp + 1 < recursionLimit) (hu : un + 8 < cLine) (hz : vs.length ≤ 1000)
    (hret : ∀ D h' tk', Fr h₀ L h' m → News h₀ L h' ((D, listOf vs.toArray 0) :: (l, listOf vs.toArray nl) :: (x, instObj 184 dx) :: (dx, dictOf [⟨PyData.keyHash w.params (Str.ofString "_headers"), .str (Str.ofString "_headers") kt, .ref l⟩] 1) :: rest) → (∀ p ∈ ((l, listOf vs.toArray nl) :: (x, instObj 184 dx) :: (dx, dictOf [⟨PyData.keyHash w.params (Str.ofString "_headers"), .str (Str.ofString "_headers") kt, .ref l⟩] 1) :: rest), p.1 < D) → Q (.ref D) { s with heap := h', toks := tk' }) :
    wpAny (model Challenge.rw_dj5017_01.row.prog w) (ktrTop dp un gd cn cs L a ccd cl outer) (call (.ref 148) [.ref x] []) Q E s := by
  w_top off
  revert X; k_fill; intro X
  refine wpAny_call ?_
  k_dflt cell_enter
  k_steps
  rename Fr h₀ _ _ _ => F9
  rename News h₀ _ _ _ => N9
  rw [slicePick_all] at N9
  refine hret _ _ _ F9 N9 ?_
  refine' fun p hp => Nat.lt_succ_of_lt (Heap.lt_size (News.get (o := p.2) ?kN hp))
  (case kN => assumption)
set_option maxRecDepth 100000 in
set_option maxHeartbeats 8000000 in
theorem init_code {w : World} {mean : ExcName → Option Value} {mg mb : Str → Option Value} {dp un : Nat} {gd : Option (List Code)} {cn : Str} {cs : Scope} {a : Addr} {ccd : Value} {cl : List (Str × Addr)} {outer : List Env} {A₀ : Around} {base h₀ : Heap} {L : Addr} {m : Str → Option Value} {s : Shared}
    {R : Result → Shared → Prop} {x dx l : Addr} {vs : List Value} {ks : List Int} {nl : Nat} {rest : List (Addr × Obj)} (B : Below A₀ base outer h₀) (F : Fr h₀ L s.heap m) (X : (hd.heap_39 w.params).In h₀) (N : News h₀ L s.heap ((l, listOf vs.toArray nl) :: (x, instObj 184 dx) :: (dx, dictOf [] 0) :: rest))
    (T : Top hd.view_39 (looseW hd.view_39 [Str.ofString "tspecials", Str.ofString "_name_disallowed_re", Str.ofString "_value_disallowed_re", Str.ofString "_formatparam"]) mean mg mb h₀)
    (hk : cs.kind = .function) (hdp : dp + 5 < recursionLimit) (hu : un + 60 < cLine) (hz : vs.length ≤ 1000) (hrow : RowIn h₀ rest vs ks) (hoff : ∀ p ∈ rest, p.1 ≠ dx)
    (hret : ∀ kt h' tk', Fr h₀ L h' m → News h₀ L h' ((l, listOf vs.toArray nl) :: (x, instObj 184 dx) :: (dx, dictOf [⟨PyData.keyHash w.params (Str.ofString "_headers"), .str (Str.ofString "_headers") kt, .ref l⟩] 1) :: rest) → R (.ok (.ret .none)) { s with heap := h', toks := tk' }) :
    codeAny (model Challenge.rw_dj5017_01.row.prog w) (ktrTop dp un gd cn cs L a ccd cl outer) (.call (.ref 76) ⟨[.ref x, .ref l], []⟩) R s := by
  w_top off
  revert X; k_fill; intro X
  have hxl := neN (news_ne N (.tail _ (.head _)) (.head _) (by simp [instObj]))
  have hdl := neN (news_ne N (.tail _ (.tail _ (.head _))) (.head _) (by simp))
  have hxd := neN (news_ne N (.tail _ (.head _)) (.tail _ (.tail _ (.head _))) (by simp [instObj]))
  obtain ⟨kd1, nm1, ig1, ic1, mr1⟩ := cs
  cases hk
  k_dflt k_enter
  k_steps
  refine stop_of ?_
  rename Fr _ _ _ _ => FF0
  (with_reducible refine' for_pairs FF0 ?hh ?hxk ?hxv ?hkv ?hp ?h ?hs ?hE)
  (case hh => with_unfolding_all rfl)
  (case hxk => with_unfolding_all rfl)
  (case hxv => with_unfolding_all rfl)
  (case hkv => decide)
  (case hp => with_unfolding_all rfl)
  (case hs => intro _; with_unfolding_all rfl)
  (case hE => passes_own)
  k_steps
  refine stop_of ?_
  rename Fr _ _ _ _ => FF
  rename News _ _ _ _ => NN
  refine ⟨l, vs, ks, nl, _, _, rfl, .head _, hrow.mono (Fr.keep (by assumption)) (fun q hq => .tail _ (.tail _ (.tail _ hq))), FF, NN, ?_, ?_⟩
  · intro k ty tz h1 tk1 I oI hkk F1 N1
    k_steps
    refine stop_of ⟨rfl, _, _, rfl, ⟨_, by assumption, ?_⟩, by assumption⟩
    intro y h1 h2
    simp only [if_neg h1, if_neg h2]
  · intro h1 tk1 u F1 N1
    k_steps
    exact hret _ _ _ (by assumption) (by assumption)
set_option maxRecDepth 100000 in
set_option maxHeartbeats 8000000 in
theorem headers_new {w : World} {mean : ExcName → Option Value} {mg mb : Str → Option Value} {dp un : Nat} {gd : Option (List Code)} {cn : Str} {cs : Scope} {a : Addr} {ccd : Value} {cl : List (Str × Addr)} {outer : List Env} {A₀ : Around} {base h₀ : Heap} {L : Addr} {m : Str → Option Value} {s : Shared}
    {Q E : Value → Shared → Prop} {l : Addr} {vs : List Value} {ks : List Int} {nl : Nat} {rest : List (Addr × Obj)} (B : Below A₀ base outer h₀) (F : Fr h₀ L s.heap m) (X : (hd.heap_39 w.params).In h₀) (N : News h₀ L s.heap ((l, listOf vs.toArray nl) :: rest))
    (T : Top hd.view_39 (looseW hd.view_39 [Str.ofString "tspecials", Str.ofString "_name_disallowed_re", Str.ofString "_value_disallowed_re", Str.ofString "_formatparam"]) mean mg mb h₀)
    (hk : cs.kind = .function) (hdp : dp + 8 < recursionLimit) (hu : un + 80 < cLine) (hz : vs.length ≤ 1000) (hrow : RowIn h₀ rest vs ks)
    (hret : ∀ x dx kt h' tk', Fr h₀ L h' m → News h₀ L h' ((l, listOf vs.toArray nl) :: (x, instObj 184 dx) :: (dx, dictOf [⟨PyData.keyHash w.params (Str.ofString "_headers"), .str (Str.ofString "_headers") kt, .ref l⟩] 1) :: rest) → (∀ p ∈ (l, listOf vs.toArray nl) :: rest, p.1 < dx) → dx < x → Q (.ref x) { s with heap := h', toks := tk' }) :
    wpAny (model Challenge.rw_dj5017_01.row.prog w) (ktrTop dp un gd cn cs L a ccd cl outer) (call (.ref 184) [.ref l] []) Q E s := by
  w_top off
  revert X; k_fill; intro X
  k_dflt (refine' call_cls ?k1 ?k2 ?k3 ?k4 ?k5 ?k6 ?_; (case k1 => k_asm); (case k2 => k_asm); (case k3 => k_asm); (case k4 => k_is); (case k5 => k_is); (case k6 => k_is); k_whole)
  intro x dx h1 F1 N1 l1 l2
  k_dflt (refine' init_code (l := l) (x := x) (dx := dx) (vs := vs) (ks := ks) (nl := nl) (rest := rest) B F1 X ?q4 T hk ?q7 ?q8 hz hrow ?hoff ?q9)
  (case q4 => exact news_sub N1 (fun p hp => by simp only [List.mem_cons] at hp ⊢; rcases hp with h | h | h | h <;> simp [h]))
  (case q7 => (show dp + 1 + 5 < recursionLimit; omega))
  (case q8 => (show un + 1 + 60 < cLine; omega))
  (case hoff => exact fun p hp => Nat.ne_of_lt (l1 p (.tail _ hp)))
  intro kt h2 tk2 F2 N2
  exact ⟨rfl, hret x dx kt h2 tk2 F2 N2 l1 l2⟩
end Mine
namespace Mine

section
variable {prog : Program} {w : World} {A : Around} {E : Value → Shared → Prop} {s : Shared} {env : Env} {h₀ : Heap}
/-- how a turn of a loop ends -/
def TurnEnd (h₀ : Heap) (L I : Addr) (oI : Obj) (J : (Str → Option Value) → List (Addr × Obj) → Prop) (Q : Flow → Shared → Prop) (s₁ : Shared) (f : Flow) (s₂ : Shared) : Prop :=
  match f with
  | .ret v => Q (.ret v) s₂
  | .brk => Q .next s₂
  | _ => ∃ h' tk m' nx, s₂ = { s₁ with heap := h', toks := tk } ∧ Fr h₀ L h' m' ∧ News h₀ L h' ((I, oI) :: nx) ∧ (∀ p ∈ nx, p.1 ≠ I) ∧ J m' nx
theorem TurnEnd.next {L I : Addr} {oI : Obj} {J : (Str → Option Value) → List (Addr × Obj) → Prop} {Q : Flow → Shared → Prop} {s₁ : Shared} {h' : Heap} {tk : Nat} {m' : Str → Option Value} {nx news' : List (Addr × Obj)} (F : Fr h₀ L h' m') (N : News h₀ L h' news') (hs : ∀ p ∈ (I, oI) :: nx, p ∈ news') (hI : ∀ p ∈ nx, p.1 ≠ I) (hj : J m' nx) :
    TurnEnd h₀ L I oI J Q s₁ .next { s₁ with heap := h', toks := tk } := ⟨h', tk, m', nx, rfl, F, news_sub N hs, hI, hj⟩
/-- a loop by what holds of its frame and its ledger -/
theorem for_core {Q : Flow → Shared → Prop} {x : Str} {px pos : Pos} {iter : Expr} {body : List Stmt} {m₀ : Str → Option Value} (zF₀ : Fr h₀ env.locals s.heap m₀)
    (h : wpAny (model prog w) A (eval iter env) (fun xl s₁ => wpAny (model prog w) A (pyIter xl) (fun it s₂ => Stop (∃ (I : Addr) (fp : List Addr) (n : Nat) (P : Nat → Value → Prop) (St : Nat → Heap → Prop) (m : Str → Option Value) (news : List (Addr × Obj)) (J : Nat → (Str → Option Value) → List (Addr × Obj) → Prop),
      it = .ref I ∧ Walks prog w A I fp [I] n P St ∧ (∀ i m nx h h', J i m nx → St i h → (∀ o, h.get? I = some o → h'.get? I = some o) → News h₀ env.locals h' nx → St i h') ∧ (∀ i h, St i h → ∃ o, h.get? I = some o ∧ o.cls ≠ .type "tuple") ∧
      I ≠ env.locals ∧ h₀.get? I = none ∧ (∀ p ∈ news, p.1 ≠ I) ∧ St 0 s₂.heap ∧ Fr h₀ env.locals s₂.heap m ∧ News h₀ env.locals s₂.heap news ∧ J 0 m news ∧
      (∀ i v m₁ nx h tk oI, i < n → P i v → J i m₁ nx → (∀ p ∈ nx, p.1 ≠ I) → Fr h₀ env.locals h m₁ → News h₀ env.locals h ((I, oI) :: nx) → oI.cls ≠ .type "tuple" →
        wpAny (model prog w) A (assign (.Name x px) env v) (fun _ s₃ => wpAny (model prog w) A (execs body env) (TurnEnd h₀ env.locals I oI (J (i + 1)) Q s₂) E s₃) E { s₂ with heap := h, toks := tk }) ∧
      (∀ h' tk m' nx, Fr h₀ env.locals h' m' → News h₀ env.locals h' nx → J n m' nx → Q .next { s₂ with heap := h', toks := tk }))) E s₁) E s)
    (hs : ∀ x, foldedSetIterable iter env x = pure x) (hE : PassesOwn (model prog w) A env E) :
    wpAny (model prog w) A (exec (.For (.Name x px) iter body [] pos) env) Q E s := by
  refine wpAny_For (wpAny_mono h (fun xl s₁ h₁ => wpAny_mono h₁ (fun it s₂ h₂ => ?_) fun _ _ e => e) fun _ _ e => e) hs
  obtain ⟨I, fp, n, P, St, m, news, J, rfl, W, keepSt, hob, hIL, hI0, hnI, hst, F, N, h0, turn, done⟩ := h₂
  refine codeAny_forLoop
    (fun k s' => ∃ H tk m' nx i, s' = { s₂ with heap := H, toks := tk } ∧ St i H ∧ Fr h₀ env.locals H m' ∧ News h₀ env.locals H nx ∧ (∀ p ∈ nx, p.1 ≠ I) ∧ J i m' nx ∧ i ≤ n ∧ k = n + 1 - i) ?_ (n + 1)
    ⟨s₂.heap, s₂.toks, m, news, 0, rfl, hst, F, N, hnI, h0, Nat.zero_le _, rfl⟩
  rintro k s' ⟨H, tk, m', nx, i, rfl, hst', F', N', hnx, hJ, hi, rfl⟩
  have next : ∀ h₁ : Heap, (∀ b o, b ∉ [I] → H.get? b = some o → h₁.get? b = some o) → Fr h₀ env.locals h₁ m' ∧ News h₀ env.locals h₁ nx := fun h₁ hk₁ =>
    ⟨⟨F'.ns.at' fun o e => hk₁ _ o (fun q => hIL (List.mem_singleton.mp q).symm) e, fun b o e => hk₁ b o (fun q => by rw [List.mem_singleton.mp q, hI0] at e; cases e) (F'.keep b o e), F'.above⟩,
      fun p hp => ⟨hk₁ _ _ (fun q => hnx p hp (List.mem_singleton.mp q)) (N' p hp).1, (N' p hp).2⟩⟩
  by_cases hlt : i < n
  · refine W.item i _ _ _ hlt hst' fun v h₁ tk₁ hP hst₁ hk₁ => ?_
    obtain ⟨F₁, N₁⟩ := next h₁ hk₁
    obtain ⟨oI, hoI, hoT⟩ := hob _ _ hst₁
    have NI : News h₀ env.locals h₁ ((I, oI) :: nx) := fun p hp => by
      rcases List.mem_cons.mp hp with rfl | hp
      · exact ⟨hoI, hIL, hI0⟩
      · exact N₁ p hp
    refine wpAny_mono (wpAny_passesOwn hE (turn i v m' nx h₁ tk₁ oI hlt hP hJ hnx F₁ NI hoT)) (fun _ s₃ h₃ => wpAny_mono (wpAny_passesOwn hE h₃) (fun f s₄ h₄ => ?_) fun _ _ e => e) fun _ _ e => e
    cases f with
    | ret v => exact h₄
    | brk => exact h₄
    | cont =>
      obtain ⟨h', tk', m₂, nx', rfl, F₄, N₄, hI₄, hJ₄⟩ := h₄
      exact ⟨n + 1 - (i + 1), by omega, h', tk', m₂, nx', i + 1, rfl, keepSt _ _ _ _ _ hJ₄ hst₁ (fun o e => by rw [hoI] at e; cases e; exact (N₄ _ (.head _)).1) (news_sub N₄ fun _ q => .tail _ q), F₄, news_sub N₄ (fun _ q => .tail _ q), hI₄, hJ₄, hlt, rfl⟩
    | next =>
      obtain ⟨h', tk', m₂, nx', rfl, F₄, N₄, hI₄, hJ₄⟩ := h₄
      exact ⟨n + 1 - (i + 1), by omega, h', tk', m₂, nx', i + 1, rfl, keepSt _ _ _ _ _ hJ₄ hst₁ (fun o e => by rw [hoI] at e; cases e; exact (N₄ _ (.head _)).1) (news_sub N₄ fun _ q => .tail _ q), F₄, news_sub N₄ (fun _ q => .tail _ q), hI₄, hJ₄, hlt, rfl⟩
  · have hin : i = n := by omega
    subst hin
    refine W.done _ _ _ hst' fun h₁ tk₁ hk₁ => wpAny_execs_nil ?_
    obtain ⟨F₁, N₁⟩ := next h₁ hk₁
    exact done h₁ tk₁ m' nx F₁ N₁ hJ
/-- a range from nought -/
theorem loop_range {Q : Flow → Shared → Prop} {x : Str} {px : Pos} {body : List Stmt} {m : Str → Option Value} {news : List (Addr × Obj)} {r : Addr} {n : Nat} {b : Int} {t u v : Tok} (hh : A.handled = none)
    (hr : IsRange s.heap r 0 b 1 t u v) (hsmall : Builtin.Range.small 0 b 1 = true) (hsz : Builtin.Range.rangeSize 0 b 1 = (n : Int)) (F : Fr h₀ env.locals s.heap m) (N : News h₀ env.locals s.heap news)
    (J : Nat → (Str → Option Value) → List (Addr × Obj) → Prop) (h0 : J 0 m news)
    (turn : ∀ (i : Nat) tv m₁ nx h tk I oI, i < n → J i m₁ nx → (∀ p ∈ nx, p.1 ≠ I) → Fr h₀ env.locals h m₁ → News h₀ env.locals h ((I, oI) :: nx) → oI.cls ≠ .type "tuple" →
        wpAny (model prog w) A (assign (.Name x px) env (.int i tv)) (fun _ s₃ => wpAny (model prog w) A (execs body env) (TurnEnd h₀ env.locals I oI (J (i + 1)) Q s) E s₃) E { s with heap := h, toks := tk })
    (done : ∀ h' tk m' nx, Fr h₀ env.locals h' m' → News h₀ env.locals h' nx → J n m' nx → Q .next { s with heap := h', toks := tk }) :
    wpAny (model prog w) A (pyIter (.ref r)) (fun it s₂ => Stop (∃ (I : Addr) (fp : List Addr) (n : Nat) (P : Nat → Value → Prop) (St : Nat → Heap → Prop) (m : Str → Option Value) (news : List (Addr × Obj)) (J : Nat → (Str → Option Value) → List (Addr × Obj) → Prop),
      it = .ref I ∧ Walks prog w A I fp [I] n P St ∧ (∀ i m nx h h', J i m nx → St i h → (∀ o, h.get? I = some o → h'.get? I = some o) → News h₀ env.locals h' nx → St i h') ∧ (∀ i h, St i h → ∃ o, h.get? I = some o ∧ o.cls ≠ .type "tuple") ∧
      I ≠ env.locals ∧ h₀.get? I = none ∧ (∀ p ∈ news, p.1 ≠ I) ∧ St 0 s₂.heap ∧ Fr h₀ env.locals s₂.heap m ∧ News h₀ env.locals s₂.heap news ∧ J 0 m news ∧
      (∀ i v m₁ nx h tk oI, i < n → P i v → J i m₁ nx → (∀ p ∈ nx, p.1 ≠ I) → Fr h₀ env.locals h m₁ → News h₀ env.locals h ((I, oI) :: nx) → oI.cls ≠ .type "tuple" →
        wpAny (model prog w) A (assign (.Name x px) env v) (fun _ s₃ => wpAny (model prog w) A (execs body env) (TurnEnd h₀ env.locals I oI (J (i + 1)) Q s₂) E s₃) E { s₂ with heap := h, toks := tk }) ∧
      (∀ h' tk m' nx, Fr h₀ env.locals h' m' → News h₀ env.locals h' nx → J n m' nx → Q .next { s₂ with heap := h', toks := tk }))) E s := by
  refine wpAny_pyIter_range hr hsmall ?_
  rw [hsz]
  have hI : ∀ b o, s.heap.get? b = some o → b ≠ s.heap.objs.size := fun b o e => Nat.ne_of_lt (Heap.lt_size e)
  refine ⟨s.heap.objs.size, _, n, _, _, m, news, J, rfl, Walks.range hh s.heap.objs.size 0 1 n, ?_, ?_, ?_, next_is_new F, fun p hp => hI _ _ (N p hp).1, ?_, F.push _, fun p hp => ⟨Heap.get?_push_of_some _ (N p hp).1, (N p hp).2⟩, h0, ?_, ?_⟩
  · intro i _ _ h h' _ hst hk _
    exact hk _ hst
  · intro i h hst
    exact ⟨_, hst, by simp⟩
  · obtain ⟨oL, _, _, hoL, _⟩ := F.ns
    exact (hI _ _ hoL).symm
  · show IsRangeIter _ _ _ _ _
    simpa using Heap.get?_push_size _ rfl
  · rintro i v m₁ nx h tk oI hi ⟨t, rfl⟩ hj hnx F₁ N₁ hoT
    have e : (0 : Int) + (i : Int) * 1 = (i : Int) := by omega
    rw [e]
    exact turn i t m₁ nx h tk _ oI hi hj hnx F₁ N₁ hoT
  · intro h' tk m' nx F' N' hj
    exact done h' tk m' nx F' N' hj
/-- a list of the ledger's -/
theorem loop_list {Q : Flow → Shared → Prop} {x : Str} {px : Pos} {body : List Stmt} {m : Str → Option Value} {news : List (Addr × Obj)} {l : Addr} {its : List Value} {nl : Nat} (hh : A.handled = none)
    (F : Fr h₀ env.locals s.heap m) (N : News h₀ env.locals s.heap news)
    (J : Nat → (Str → Option Value) → List (Addr × Obj) → Prop) (h0 : J 0 m news) (hJl : ∀ i m nx, J i m nx → (l, listOf its.toArray nl) ∈ nx)
    (turn : ∀ (i : Nat) v m₁ nx h tk I oI, its[i]? = some v → J i m₁ nx → (∀ p ∈ nx, p.1 ≠ I) → Fr h₀ env.locals h m₁ → News h₀ env.locals h ((I, oI) :: nx) → oI.cls ≠ .type "tuple" →
        wpAny (model prog w) A (assign (.Name x px) env v) (fun _ s₃ => wpAny (model prog w) A (execs body env) (TurnEnd h₀ env.locals I oI (J (i + 1)) Q s) E s₃) E { s with heap := h, toks := tk })
    (done : ∀ h' tk m' nx, Fr h₀ env.locals h' m' → News h₀ env.locals h' nx → J its.length m' nx → Q .next { s with heap := h', toks := tk }) :
    wpAny (model prog w) A (pyIter (.ref l)) (fun it s₂ => Stop (∃ (I : Addr) (fp : List Addr) (n : Nat) (P : Nat → Value → Prop) (St : Nat → Heap → Prop) (m : Str → Option Value) (news : List (Addr × Obj)) (J : Nat → (Str → Option Value) → List (Addr × Obj) → Prop),
      it = .ref I ∧ Walks prog w A I fp [I] n P St ∧ (∀ i m nx h h', J i m nx → St i h → (∀ o, h.get? I = some o → h'.get? I = some o) → News h₀ env.locals h' nx → St i h') ∧ (∀ i h, St i h → ∃ o, h.get? I = some o ∧ o.cls ≠ .type "tuple") ∧
      I ≠ env.locals ∧ h₀.get? I = none ∧ (∀ p ∈ news, p.1 ≠ I) ∧ St 0 s₂.heap ∧ Fr h₀ env.locals s₂.heap m ∧ News h₀ env.locals s₂.heap news ∧ J 0 m news ∧
      (∀ i v m₁ nx h tk oI, i < n → P i v → J i m₁ nx → (∀ p ∈ nx, p.1 ≠ I) → Fr h₀ env.locals h m₁ → News h₀ env.locals h ((I, oI) :: nx) → oI.cls ≠ .type "tuple" →
        wpAny (model prog w) A (assign (.Name x px) env v) (fun _ s₃ => wpAny (model prog w) A (execs body env) (TurnEnd h₀ env.locals I oI (J (i + 1)) Q s₂) E s₃) E { s₂ with heap := h, toks := tk }) ∧
      (∀ h' tk m' nx, Fr h₀ env.locals h' m' → News h₀ env.locals h' nx → J n m' nx → Q .next { s₂ with heap := h', toks := tk }))) E s := by
  have hls : s.heap.IsList l its.toArray := N.isList (hJl _ _ _ h0)
  refine wpAny_pyIter_list hls ?_
  have hI : ∀ b o, s.heap.get? b = some o → b ≠ s.heap.objs.size := fun b o e => Nat.ne_of_lt (Heap.lt_size e)
  have hlI := hI _ _ (N _ (hJl _ _ _ h0)).1
  refine ⟨s.heap.objs.size, _, its.toArray.size, _, _, m, news, J, rfl, Walks.list hh s.heap.objs.size l hlI its.toArray, ?_, ?_, ?_, next_is_new F, fun p hp => hI _ _ (N p hp).1, ⟨⟨_, Heap.get?_push_size _ rfl, rfl, rfl⟩, hls.push _⟩, F.push _, fun p hp => ⟨Heap.get?_push_of_some _ (N p hp).1, (N p hp).2⟩, h0, ?_, ?_⟩
  · intro i m' nx h h' hj hst hk N'
    exact ⟨hst.1.at hk, N'.isList (hJl _ _ _ hj)⟩
  · intro i h hst
    obtain ⟨⟨o, ho, hc, _⟩, _⟩ := hst
    exact ⟨o, ho, by rw [hc]; simp⟩
  · obtain ⟨oL, _, _, hoL, _⟩ := F.ns
    exact (hI _ _ hoL).symm
  · intro i v m₁ nx h tk oI _ hv hj hnx F₁ N₁ hoT
    exact turn i v m₁ nx h tk _ oI (by simpa using hv) hj hnx F₁ N₁ hoT
  · intro h' tk m' nx F' N' hj
    exact done h' tk m' nx F' N' (by simpa using hj)
end
end Mine
namespace Mine

def othk (c : Int) : Str := if c = 0 then Str.ofString "A" else if c = 1 then Str.ofString "b" else Str.ofString "C"
def foldk (k : Int) : Int := if k = 0 then 0 else if k = 1 then 1 else if k = 2 then 2 else if k = 3 then 2 else 0
theorem kd_mem {k : Int} {ks : List Int} (hk : k ∈ ks) (h : ∀ k ∈ ks, Kd k) : Kd k := h k hk
theorem fr_known {h₀ h : Heap} {L : Addr} {m : Str → Option Value} {x : Str} {v : Value} (F : Fr h₀ L h m) (e : m x = some v) : Fr h₀ L h (fun y => if y = x then some v else m y) := by
  have q : (fun y => if y = x then some v else m y) = m := by
    funext y
    by_cases h : y = x
    · subst h; simp only [if_true, e]
    · simp only [if_neg h]
  rw [q]; exact F
theorem ne_list_cell {h₀ h : Heap} {L a b : Addr} {its : Array Value} {n : Nat} {o : Obj} {x : Option Value} {news : List (Addr × Obj)} (N : News h₀ L h news) (ma : (a, ({ cls := .type "list", data := .seq its n } : Obj)) ∈ news) (mb : (b, o) ∈ news) (e : o.data = .cell x) : a ≠ b := by
  rintro rfl
  have q := (N _ ma).1.symm.trans (N _ mb).1
  injection q with q
  dsimp only at q
  subst q
  cases e
theorem fr_known3 {h₀ h : Heap} {L : Addr} {m : Str → Option Value} {x1 x2 x3 : Str} {v1 v2 v3 : Value} (F : Fr h₀ L h m) (e1 : m x1 = some v1) (e2 : m x2 = some v2) (e3 : m x3 = some v3) : Fr h₀ L h (fun y => if y = x1 then some v1 else if y = x2 then some v2 else if y = x3 then some v3 else m y) := by
  have q : (fun y => if y = x1 then some v1 else if y = x2 then some v2 else if y = x3 then some v3 else m y) = m := by
    funext y
    by_cases h : y = x1
    · subst h; simp only [if_true, e1]
    · simp only [if_neg h]
      by_cases h2 : y = x2
      · subst h2; simp only [if_true, e2]
      · simp only [if_neg h2]
        by_cases h3 : y = x3
        · subst h3; simp only [if_true, e3]
        · simp only [if_neg h3]
  rw [q]; exact F
section
variable {prog : Program} {w : World} {A : Around} {E : Value → Shared → Prop} {s : Shared} {h₀ : Heap} {L : Addr} {m : Str → Option Value}
theorem in_ints {l : Addr} {vs : List Value} {ns : List Int} {k : Int} {t : Tok} {Q : Value → Shared → Prop} (hl : s.heap.IsList l vs.toArray) (hi : IntsAre vs ns) (h : Q (.bool (ns.any (· == k))) s) : wpAny (model prog w) A (compareOp .In (.int k t) (.ref l)) Q E s := by
  have e : ∀ {vs : List Value} {ns : List Int}, IntsAre vs ns → vs.any (isInt k) = ns.any (· == k) := by
    intro vs ns hi
    induction hi with
    | nil => rfl
    | cons n t _ ih => simp only [List.any_cons, ih]; rfl
  have q : ∀ {vs : List Value} {ns : List Int}, IntsAre vs ns → ∀ y ∈ vs, MeetsSeq.EqGives y (.int k t) (isInt k y) := by
    intro vs ns hi
    induction hi with
    | nil => intro y hy; cases hy
    | cons n u _ ih =>
      intro y hy
      rcases List.mem_cons.mp hy with rfl | hy
      · exact MeetsSeq.EqGives.int n k u t
      · exact ih y hy
  refine SeqInW.in_listW (isInt k) (fun y hy => q hi y (by simpa using hy)) hl ?_
  rw [← Array.any_toList, e hi]; exact h
theorem notin_ints {l : Addr} {vs : List Value} {ns : List Int} {k : Int} {t : Tok} {Q : Value → Shared → Prop} (hl : s.heap.IsList l vs.toArray) (hi : IntsAre vs ns) (h : Q (.bool (!ns.any (· == k))) s) : wpAny (model prog w) A (compareOp .NotIn (.int k t) (.ref l)) Q E s := by
  have e : ∀ {vs : List Value} {ns : List Int}, IntsAre vs ns → vs.any (isInt k) = ns.any (· == k) := by
    intro vs ns hi
    induction hi with
    | nil => rfl
    | cons n t _ ih => simp only [List.any_cons, ih]; rfl
  have q : ∀ {vs : List Value} {ns : List Int}, IntsAre vs ns → ∀ y ∈ vs, MeetsSeq.EqGives y (.int k t) (isInt k y) := by
    intro vs ns hi
    induction hi with
    | nil => intro y hy; cases hy
    | cons n u _ ih =>
      intro y hy
      rcases List.mem_cons.mp hy with rfl | hy
      · exact MeetsSeq.EqGives.int n k u t
      · exact ih y hy
  refine SeqInW.notIn_listW (isInt k) (fun y hy => q hi y (by simpa using hy)) hl ?_
  rw [← Array.any_toList, e hi]; exact h
theorem of_item {value slice : Expr} {k : Int} {u : Tok} {Q : Value → Shared → Prop} (F : Fr h₀ L s.heap m) (X : (hd.heap_39 w.params).In h₀) (hk : Kd k) (h : ∀ t, Q (.int (ofk k) t) s)
    (hs : subscripted slice false (.ref 195) (.int k u) = operate [.ref 195, .int k u] (getItem (.ref 195) (.int k u))) (hg : ∀ r, letTemporaryGo value (.ref 195) r = pure ()) :
    wpAny (model prog w) A (subscriptTail value slice (.ref 195) (.int k u)) Q E s := by
  have ht := X.keeps F.keep 195 _ rfl
  rcases hk with rfl | rfl | rfl | rfl | rfl
  · exact item_tuple (j := 0) ⟨_, ht, rfl, _, rfl⟩ (by decide) (by decide) rfl rfl (h _) hs hg
  · exact item_tuple (j := 1) ⟨_, ht, rfl, _, rfl⟩ (by decide) (by decide) rfl rfl (h _) hs hg
  · exact item_tuple (j := 2) ⟨_, ht, rfl, _, rfl⟩ (by decide) (by decide) rfl rfl (h _) hs hg
  · exact item_tuple (j := 3) ⟨_, ht, rfl, _, rfl⟩ (by decide) (by decide) rfl rfl (h _) hs hg
  · exact item_tuple (j := 4) ⟨_, ht, rfl, _, rfl⟩ (by decide) (by decide) rfl rfl (h _) hs hg
theorem fold_item {value slice : Expr} {k : Int} {u : Tok} {Q : Value → Shared → Prop} (F : Fr h₀ L s.heap m) (X : (hd.heap_39 w.params).In h₀) (hk : Kd k) (h : ∀ t, Q (.int (foldk k) t) s)
    (hs : subscripted slice false (.ref 196) (.int k u) = operate [.ref 196, .int k u] (getItem (.ref 196) (.int k u))) (hg : ∀ r, letTemporaryGo value (.ref 196) r = pure ()) :
    wpAny (model prog w) A (subscriptTail value slice (.ref 196) (.int k u)) Q E s := by
  have ht := X.keeps F.keep 196 _ rfl
  rcases hk with rfl | rfl | rfl | rfl | rfl
  · exact item_tuple (j := 0) ⟨_, ht, rfl, _, rfl⟩ (by decide) (by decide) rfl rfl (h _) hs hg
  · exact item_tuple (j := 1) ⟨_, ht, rfl, _, rfl⟩ (by decide) (by decide) rfl rfl (h _) hs hg
  · exact item_tuple (j := 2) ⟨_, ht, rfl, _, rfl⟩ (by decide) (by decide) rfl rfl (h _) hs hg
  · exact item_tuple (j := 3) ⟨_, ht, rfl, _, rfl⟩ (by decide) (by decide) rfl rfl (h _) hs hg
  · exact item_tuple (j := 4) ⟨_, ht, rfl, _, rfl⟩ (by decide) (by decide) rfl rfl (h _) hs hg
theorem other_item {value slice : Expr} {c : Int} {u : Tok} {Q : Value → Shared → Prop} (F : Fr h₀ L s.heap m) (X : (hd.heap_39 w.params).In h₀) (hc0 : 0 ≤ c) (hc3 : c < 3) (h : ∀ t, Q (.str (othk c) t) s)
    (hs : subscripted slice false (.ref 197) (.int c u) = operate [.ref 197, .int c u] (getItem (.ref 197) (.int c u))) (hg : ∀ r, letTemporaryGo value (.ref 197) r = pure ()) :
    wpAny (model prog w) A (subscriptTail value slice (.ref 197) (.int c u)) Q E s := by
  have ht := X.keeps F.keep 197 _ rfl
  have hc : c = 0 ∨ c = 1 ∨ c = 2 := by omega
  rcases hc with rfl | rfl | rfl
  · exact item_tuple (j := 0) ⟨_, ht, rfl, _, rfl⟩ (by decide) (by decide) rfl rfl (h _) hs hg
  · exact item_tuple (j := 1) ⟨_, ht, rfl, _, rfl⟩ (by decide) (by decide) rfl rfl (h _) hs hg
  · exact item_tuple (j := 2) ⟨_, ht, rfl, _, rfl⟩ (by decide) (by decide) rfl rfl (h _) hs hg
theorem kinds_item {value slice : Expr} {k : Int} {u : Tok} {Q : Value → Shared → Prop} (F : Fr h₀ L s.heap m) (X : (hd.heap_39 w.params).In h₀) (hk : Kd k)
    (h : ∀ a ty tz, (∀ g, (hd.heap_39 w.params).In g → g.get? a = some (tupO k ty tz 0)) → Q (.ref a) s)
    (hs : subscripted slice false (.ref 194) (.int k u) = operate [.ref 194, .int k u] (getItem (.ref 194) (.int k u))) (hg : ∀ r, letTemporaryGo value (.ref 194) r = pure ()) :
    wpAny (model prog w) A (subscriptTail value slice (.ref 194) (.int k u)) Q E s := by
  have ht := X.keeps F.keep 194 _ rfl
  rcases hk with rfl | rfl | rfl | rfl | rfl
  · exact item_tuple (j := 0) ⟨_, ht, rfl, _, rfl⟩ (by decide) (by decide) rfl rfl (h 189 556 557 fun g Y => Y 189 _ rfl) hs hg
  · exact item_tuple (j := 1) ⟨_, ht, rfl, _, rfl⟩ (by decide) (by decide) rfl rfl (h 190 558 559 fun g Y => Y 190 _ rfl) hs hg
  · exact item_tuple (j := 2) ⟨_, ht, rfl, _, rfl⟩ (by decide) (by decide) rfl rfl (h 191 560 561 fun g Y => Y 191 _ rfl) hs hg
  · exact item_tuple (j := 3) ⟨_, ht, rfl, _, rfl⟩ (by decide) (by decide) rfl rfl (h 192 562 563 fun g Y => Y 192 _ rfl) hs hg
  · exact item_tuple (j := 4) ⟨_, ht, rfl, _, rfl⟩ (by decide) (by decide) rfl rfl (h 193 564 565 fun g Y => Y 193 _ rfl) hs hg
theorem sl_from {value slice : Expr} {h : Heap} {g : Array GenState} {d : Drawn} {tk : Nat} {os : OsState} {news : List (Addr × Obj)} {l : Addr} {vs : List Value} {ns : List Int} {x : Int} {tx : Tok} {Q : Value → Shared → Prop}
    (F : Fr h₀ L h m) (N : News h₀ L h news) (hl : h.IsList l vs.toArray) (hi : IntsAre vs ns) (hx : 0 ≤ x) (hz : ns.length ≤ 1000)
    (hq : ∀ D ws h', Fr h₀ L h' m → News h₀ L h' ((D, listOf ws.toArray 0) :: news) → (∀ p ∈ news, p.1 < D) → IntsAre ws (ns.drop x.toNat) → Q (.ref D) ⟨h', g, d, tk, os⟩)
    (hs : subscripted slice false (.ref l) (.ref h.objs.size) = operate [.ref h.objs.size, .ref l] (getItem (.ref l) (.ref h.objs.size))) (ht : ∀ r, letTemporaryGo value (.ref l) r = pure ()) :
    wpAny (model prog w) A (subscriptTail value slice (.ref l) (.ref h.objs.size)) Q E ⟨h.push { cls := .type "slice", data := .fields #[.int x tx, .none, .none] }, g, d, tk, os⟩ := by
  refine slice_list (s := ⟨h, g, d, tk, os⟩) (vl := .int x tx) (vu := .none) F N hl (.int _ _) .none (fun h' F' N' => ?_) hs ht (by rw [List.size_toArray, hi.length, sizeLine_eq]; omega)
  exact hq _ (slicePick vs.toArray (some x) none none).toList h' F' (by rw [Array.toArray_toList]; exact N') (fun p hp => Nat.lt_succ_of_lt (Heap.lt_size (N p hp).1)) (kmk_from hi hx)
theorem sl_upto {value slice : Expr} {h : Heap} {g : Array GenState} {d : Drawn} {tk : Nat} {os : OsState} {news : List (Addr × Obj)} {l : Addr} {vs : List Value} {ns : List Int} {x : Int} {tx : Tok} {Q : Value → Shared → Prop}
    (F : Fr h₀ L h m) (N : News h₀ L h news) (hl : h.IsList l vs.toArray) (hi : IntsAre vs ns) (hx : 0 ≤ x) (hz : ns.length ≤ 1000)
    (hq : ∀ D ws h', Fr h₀ L h' m → News h₀ L h' ((D, listOf ws.toArray 0) :: news) → (∀ p ∈ news, p.1 < D) → IntsAre ws (ns.take x.toNat) → Q (.ref D) ⟨h', g, d, tk, os⟩)
    (hs : subscripted slice false (.ref l) (.ref h.objs.size) = operate [.ref h.objs.size, .ref l] (getItem (.ref l) (.ref h.objs.size))) (ht : ∀ r, letTemporaryGo value (.ref l) r = pure ()) :
    wpAny (model prog w) A (subscriptTail value slice (.ref l) (.ref h.objs.size)) Q E ⟨h.push { cls := .type "slice", data := .fields #[.none, .int x tx, .none] }, g, d, tk, os⟩ := by
  refine slice_list (s := ⟨h, g, d, tk, os⟩) (vl := .none) (vu := .int x tx) F N hl .none (.int _ _) (fun h' F' N' => ?_) hs ht (by rw [List.size_toArray, hi.length, sizeLine_eq]; omega)
  exact hq _ (slicePick vs.toArray none (some x) none).toList h' F' (by rw [Array.toArray_toList]; exact N') (fun p hp => Nat.lt_succ_of_lt (Heap.lt_size (N p hp).1)) (kmk_upto hi hx)
end
end Mine
namespace Mine

def keptOf (ks1 : List Int) (i : Nat) : List Int := ks1.filter (fun a => Builtin.bitAnd ((i : Int).fdiv (2 ^ (ofk a).toNat)) 1 == 1)
def lostP (ks1 ks2 : List Int) (i : Nat) (c : Int) : Bool := Builtin.bitAnd ((i : Int).fdiv (2 ^ c.toNat)) 1 == 0 && ((ks1.map fun k => ofk k).any (· == c) && !((ks2.drop (keptOf ks1 i).length).map fun k => ofk k).any (· == c))
def lostOf (ks1 ks2 : List Int) (i : Nat) : List Int := (rangeInts 0 1 3).filter (lostP ks1 ks2 i)
def few1 (ks1 ks2 : List Int) (i : Nat) : Option (Int × Int × Int × List Int) :=
  if ks2.take (keptOf ks1 i).length = keptOf ks1 i then some ((ks2.drop (keptOf ks1 i).length).length + (lostOf ks1 ks2 i).length, i, (keptOf ks1 i).length, lostOf ks1 ks2 i) else none
def better (b c : Option (Int × Int × Int × List Int)) : Option (Int × Int × Int × List Int) :=
  match b, c with
  | b, none => b
  | none, some c => some c
  | some b, some c => if c.1 < b.1 then some c else some b
def few (ks1 ks2 : List Int) : Nat → Option (Int × Int × Int × List Int)
  | 0 => none
  | i + 1 => better (few ks1 ks2 i) (few1 ks1 ks2 i)
theorem few_miss {ks1 ks2 : List Int} {i : Nat} (h : ¬ ks2.take (keptOf ks1 i).length = keptOf ks1 i) : few ks1 ks2 (i + 1) = few ks1 ks2 i := by
  show better (few ks1 ks2 i) (few1 ks1 ks2 i) = _
  rw [few1, if_neg h]
  cases few ks1 ks2 i <;> rfl
theorem few_first {ks1 ks2 : List Int} {i : Nat} (h : ks2.take (keptOf ks1 i).length = keptOf ks1 i) (e : few ks1 ks2 i = none) : few ks1 ks2 (i + 1) = some (((ks2.drop (keptOf ks1 i).length).length : Int) + ((lostOf ks1 ks2 i).length : Int), (i : Int), ((keptOf ks1 i).length : Int), lostOf ks1 ks2 i) := by
  show better (few ks1 ks2 i) (few1 ks1 ks2 i) = _
  rw [few1, if_pos h, e]; rfl
theorem few_less {ks1 ks2 : List Int} {i : Nat} {b : Int × Int × Int × List Int} (h : ks2.take (keptOf ks1 i).length = keptOf ks1 i) (e : few ks1 ks2 i = some b) (hb : ((ks2.drop (keptOf ks1 i).length).length : Int) + (lostOf ks1 ks2 i).length < b.1) : few ks1 ks2 (i + 1) = some (((ks2.drop (keptOf ks1 i).length).length : Int) + ((lostOf ks1 ks2 i).length : Int), (i : Int), ((keptOf ks1 i).length : Int), lostOf ks1 ks2 i) := by
  show better (few ks1 ks2 i) (few1 ks1 ks2 i) = _
  rw [few1, if_pos h, e, better]; exact if_pos hb
theorem few_more {ks1 ks2 : List Int} {i : Nat} {b : Int × Int × Int × List Int} (h : ks2.take (keptOf ks1 i).length = keptOf ks1 i) (e : few ks1 ks2 i = some b) (hb : ¬ ((ks2.drop (keptOf ks1 i).length).length : Int) + (lostOf ks1 ks2 i).length < b.1) : few ks1 ks2 (i + 1) = some b := by
  show better (few ks1 ks2 i) (few1 ks1 ks2 i) = _
  rw [few1, if_pos h, e, better]; exact if_neg hb
theorem better_some {b c : Option (Int × Int × Int × List Int)} (h : b.isSome) : (better b c).isSome := by
  cases b with
  | none => cases h
  | some b => cases c with
    | none => rfl
    | some c => simp only [better]; split <;> rfl
theorem few_some (ks1 ks2 : List Int) : (few ks1 ks2 8).isSome := by
  have h1 : (few ks1 ks2 1).isSome := by
    have k0 : keptOf ks1 0 = [] := by
      unfold keptOf
      refine List.filter_eq_nil_iff.mpr fun a _ => ?_
      have : ((0 : Nat) : Int).fdiv (2 ^ (ofk a).toNat) = 0 := by simp [Int.zero_fdiv]
      rw [this]; decide
    show (better (few ks1 ks2 0) (few1 ks1 ks2 0)).isSome
    rw [few1, if_pos (by rw [k0]; rfl)]; rfl
  exact better_some (better_some (better_some (better_some (better_some (better_some (better_some h1))))))

section
variable {prog : Program} {w : World} {A : Around} {E : Value → Shared → Prop} {s : Shared} {h₀ : Heap} {L : Addr} {m : Str → Option Value} {env : Env}
theorem asg_range {elt iter : Expr} {x y : Str} {px py : Pos} {ifs : List Expr} {scope : Scope} {cl : List (Str × Addr)} {pos spos : Pos} {Q : Flow → Shared → Prop} (pz : Int → Bool) (zF₀ : Fr h₀ L s.heap m)
    (hsw : swapsWith (.ListComp elt [⟨.Name x px, iter, ifs, 0⟩] scope pos) (some (.Name y py)) spos.line env = pure true) (hL : env.locals = L)
    (hh : A.handled = none) (hclos : closureFor scope env = pure cl) (hcell : ∀ z ∈ scope.names, z.2 ≠ .cell) (hkind : scope.kind = .function)
    (hnames : ∀ z ∈ scope.names, z.2 = .local → scope.names.lookup z.1 = some .local) (hx : scope.names.lookup x = some .local)
    (hy : env.kindOf y = some .local) (hp : (env.scope.kind == .class || (env.scope.kind == .module && env.locals != env.globals)) = false)
    (h : wpAny (model prog w) A (eval iter env) (fun xv s₁ => Stop (∃ news : List (Addr × Obj), ∃ r t₀ u₀ v₀, xv = .ref r ∧ IsRange s₁.heap r 0 3 1 t₀ u₀ v₀ ∧ Fr h₀ L s₁.heap m ∧ News h₀ L s₁.heap news ∧
      (∀ C a t s₂ m₂ E', s₁.heap.objs.size ≤ C → 0 ≤ a → a < 3 → s₂.heap.Ns (compEnvC scope cl C env).locals m₂ → m₂ x = some (.int a t) → (∀ b o, s₁.heap.get? b = some o → s₂.heap.get? b = some o) →
        wpAny (model prog w) A (forIn ifs true fun c r => if r = true then do let ok ← isTrue c (compEnvC scope cl C env) (eval c (compEnvC scope cl C env)); pure (ForInStep.yield ok) else pure (ForInStep.yield r))
          (fun ok s₃ => Stop (ok = pz a ∧ Keeps s₂ s₃)) E' s₂) ∧
      (∀ C a t s₂ m₂ E', s₁.heap.objs.size ≤ C → 0 ≤ a → a < 3 → s₂.heap.Ns (compEnvC scope cl C env).locals m₂ → m₂ x = some (.int a t) → (∀ b o, s₁.heap.get? b = some o → s₂.heap.get? b = some o) →
        wpAny (model prog w) A (eval elt (compEnvC scope cl C env)) (fun y s₃ => Stop (Carried y (PyData.int a) ∧ Keeps s₂ s₃)) E' s₂) ∧
      (∀ D (ys : List Value) n h' tk, Fr h₀ L h' (fun z => if z = y then some (.ref D) else m z) → News h₀ L h' ((D, listOf ys.toArray n) :: news) → (∀ p ∈ news, p.1 ≠ D) → IntsAre ys ((rangeInts 0 1 3).filter pz) → Q .next { s₁ with heap := h', toks := tk }))) E s)
    (hs : ∀ x, foldedSetIterable iter env x = pure x) :
    wpAny (model prog w) A (exec (.Assign [.Name y py] (.ListComp elt [⟨.Name x px, iter, ifs, 0⟩] scope pos) spos) env) Q E s := by
  refine Assign_ListComp_DCr (pz := pz) (d := PyData.int) (h₀ := h₀) (m := m) hsw hL hh hclos hcell hkind hnames hx hy hp (wpAny_mono h (fun xv s₁ h₁ => ?_) fun _ _ e => e) hs
  obtain ⟨news, r, t₀, u₀, v₀, rfl, hr, F, N, ht, he, hd⟩ := h₁
  refine ⟨news, r, 0, 3, 1, t₀, u₀, v₀, 3, rfl, hr, rfl, rfl, (by rw [sizeLine_eq]; decide), F, N, ?_, ?_, ?_⟩
  · intro C a v s₂ m₂ E' hC ha hv hn hm hk
    obtain ⟨t, rfl⟩ := ItemKind.int_is hv
    have hb := mem_rangeInts ha
    exact ht C a t s₂ m₂ E' hC hb.1 (by have := hb.2; omega) hn hm hk
  · intro C a v s₂ m₂ E' hC ha hv _ hn hm hk
    obtain ⟨t, rfl⟩ := ItemKind.int_is hv
    have hb := mem_rangeInts ha
    exact he C a t s₂ m₂ E' hC hb.1 (by have := hb.2; omega) hn hm hk
  · intro D ys h' tk F' N' hD hl hnp hc
    obtain ⟨n, N2⟩ := made_enters hnp F' N' hD
    exact hd D ys n h' tk F' (by simpa using N2) hnp.2 (by have q := hc.intsOf; rwa [List.map_id'] at q)
end
end Mine
namespace Mine
local macro_rules | `(tactic| k_all) => `(tactic| first | assumption | exact below_ne (by assumption) (by (first | omega | (dsimp only; omega))) (fun p hp => by simp [hp]))
local macro_rules | `(tactic| k_room) => `(tactic| ktr_room)
local macro_rules | `(tactic| walk_at "exec For") => `(tactic| (k_here; (with_reducible show wpAny _ _ (exec (Stmt.For (Expr.Name _ _) _ _ _ _) _) _ _ _); refine Stop.intro ?_))
local macro_rules | `(tactic| walk_at "exec For Name") => `(tactic| (k_here; (with_reducible show wpAny _ _ (exec (Stmt.For (Expr.Name _ _) _ _ _ _) _) _ _ _); refine Stop.intro ?_))
local macro_rules | `(tactic| walk_at "exec For Name Call") => `(tactic| (k_here; (with_reducible show wpAny _ _ (exec (Stmt.For (Expr.Name _ _) _ _ _ _) _) _ _ _); refine Stop.intro ?_))
local macro_rules | `(tactic| walk_at "exec For Name Name") => `(tactic| (k_here; (with_reducible show wpAny _ _ (exec (Stmt.For (Expr.Name _ _) _ _ _ _) _) _ _ _); refine Stop.intro ?_))
local macro_rules | `(tactic| walk_at "exec For Name Subscript") => `(tactic| (k_here; (with_reducible show wpAny _ _ (exec (Stmt.For (Expr.Name _ _) _ _ _ _) _) _ _ _); refine Stop.intro ?_))
local macro_rules | `(tactic| walk_at "exec For Name Call cons nil") => `(tactic| (k_here; (with_reducible show wpAny _ _ (exec (Stmt.For (Expr.Name _ _) _ _ _ _) _) _ _ _); refine Stop.intro ?_))
local macro_rules | `(tactic| walk_at "subscriptTail Name Name ref int") => `(tactic| (k_here; k_dflt (first
  | (refine' of_item ?k1 ?k2 ?k3 ?_ ?k4 ?k5; (case k1 => k_asm); (case k2 => k_asm); (case k3 => first | assumption | exact kd_mem (by assumption) (by assumption) | exact kd_mem (List.mem_of_mem_drop (by assumption)) (by assumption) | exact kd_mem (List.mem_of_mem_take (by assumption)) (by assumption)); (case k4 => with_unfolding_all rfl); (case k5 => intro _; with_unfolding_all rfl); k_whole; intro t9)
  | (refine' fold_item ?k1 ?k2 ?k3 ?_ ?k4 ?k5; (case k1 => k_asm); (case k2 => k_asm); (case k3 => first | assumption | exact kd_mem (by assumption) (by assumption) | exact kd_mem (List.mem_of_mem_drop (by assumption)) (by assumption) | exact kd_mem (List.mem_of_mem_take (by assumption)) (by assumption)); (case k4 => with_unfolding_all rfl); (case k5 => intro _; with_unfolding_all rfl); k_whole; intro t9))))
local macro_rules | `(tactic| walk_at "call builtin:len") => `(tactic| (k_here; (with_reducible show wpAny _ _ (call (Value.builtin _) [Value.ref _]) _ _ _); (with_unfolding_all refine' len_ints_fit ?k1 ?k2 ?k3 ?_; (case k1 => is_list); (case k2 => first | l_ints | exact CarriedAll.intsOf (by assumption)); (case k3 => first | l_fit | (simp only [List.length_map, List.length_drop, List.length_take]; exact Nat.lt_of_le_of_lt (List.length_filter_le _ _) (by omega)) | (simp only [List.length_map, List.length_drop, List.length_take]; omega) | exact Nat.lt_of_le_of_lt (List.length_filter_le _ _) (by rw [rangeInts_length]; omega) | omega); k_whole)))
local macro_rules | `(tactic| walk_at "binaryOp RShift int int") => `(tactic| (k_here; (with_reducible refine rshift_int (ofk_lo _) ?_)))
local macro_rules | `(tactic| k_ne) => `(tactic| first | (refine neN ?_; (try dsimp only); omega) | (refine ne_list_cell (by assumption) (by k_mem) (by k_mem) (by assumption)))
local macro_rules | `(tactic| walk_at "compareOp In int ref") => `(tactic| (k_here; (with_reducible show wpAny _ _ (compareOp _ (Value.int _ _) (Value.ref _)) _ _ _); (with_unfolding_all refine' in_ints ?k1 ?k2 ?_; (case k1 => is_list); (case k2 => first | assumption | l_ints); k_whole)))
local macro_rules | `(tactic| walk_at "compareOp NotIn int ref") => `(tactic| (k_here; (with_reducible show wpAny _ _ (compareOp _ (Value.int _ _) (Value.ref _)) _ _ _); (with_unfolding_all refine' notin_ints ?k1 ?k2 ?_; (case k1 => is_list); (case k2 => first | assumption | l_ints); k_whole)))
local macro_rules | `(tactic| walk_at "exec Assign cons ListComp") => `(tactic| (k_here; (with_reducible show wpAny _ _ (exec (Stmt.Assign [Expr.Name (Str.ofString "lost") _] _ _) _) _ _ _); refine Stop.intro ?_))
local macro_rules | `(tactic| walk_at "exec Assign") => `(tactic| (k_here; (with_reducible show wpAny _ _ (exec (Stmt.Assign [Expr.Name (Str.ofString "lost") _] _ _) _) _ _ _); refine Stop.intro ?_))
local macro_rules | `(tactic| walk_at "subscriptTail Name Slice ref ref") => `(tactic| (k_here; (with_reducible show wpAny _ _ (subscriptTail _ (PySem.Expr.Slice (some _) none none _) (Value.ref _) (Value.ref _)) _ _ _); k_dflt (refine' sl_from ?uF ?uN ?ul ?ui ?ux ?uz ?_ ?us ?ut; (case uF => k_asm); (case uN => k_asm); (case ul => kmk_list); (case ui => first | assumption | l_ints); (case ux => first | decide | exact Int.natCast_nonneg _ | omega); (case uz => (first | omega | (simp only [List.length_drop, List.length_take]; omega))); (case us => with_unfolding_all rfl); (case ut => kmk_pure); k_whole); intro D' ws' h' F' N' l1 hI'; (try k_lt l1); (try k_sweep)))
local macro_rules | `(tactic| walk_at "subscriptTail Name Slice ref ref") => `(tactic| (k_here; (with_reducible show wpAny _ _ (subscriptTail _ (PySem.Expr.Slice none (some _) none _) (Value.ref _) (Value.ref _)) _ _ _); k_dflt (refine' sl_upto ?uF ?uN ?ul ?ui ?ux ?uz ?_ ?us ?ut; (case uF => k_asm); (case uN => k_asm); (case ul => kmk_list); (case ui => first | assumption | l_ints); (case ux => first | decide | exact Int.natCast_nonneg _ | omega); (case uz => (first | omega | (simp only [List.length_drop, List.length_take]; omega))); (case us => with_unfolding_all rfl); (case ut => kmk_pure); k_whole); intro D' ws' h' F' N' l1 hI'; (try k_lt l1); (try k_sweep)))

abbrev tupB (c mk k : Int) (tc tm tq : Tok) (lo : Addr) (nt : Nat) : Obj := { cls := .type "tuple", data := .seq #[.int c tc, .int mk tm, .int k tq, .ref lo] nt }
def BestAdd (bt : Value) (add : List (Addr × Obj)) : Option (Int × Int × Int × List Int) → Prop
  | none => bt = .none
  | some (c, mk, k, ls) => ∃ t lo tc tm tq lv nlo nt add', bt = .ref t ∧ add = (t, tupB c mk k tc tm tq lo nt) :: (lo, listOf lv nlo) :: add' ∧ IntsAre lv.toList ls
def FewJ (L' D l1 l2 : Addr) (ys vs1 vs2 : List Value) (n1 n2 : Nat) (rest : List (Addr × Obj)) (b : Nat → Option (Int × Int × Int × List Int)) (i : Nat) (m : Str → Option Value) (nx : List (Addr × Obj)) : Prop :=
  ∃ (bt : Value) (add : List (Addr × Obj)) (oC oM oT : Obj) (cC cM : Option Value), nx = (l1, listOf vs1.toArray n1) :: (l2, listOf vs2.toArray n2) :: (L' + 1 + 1 + 1, oC) :: (L' + 1 + 1, oM) :: (L' + 1, oT) :: (D, LCg.lst ys) :: (add ++ rest) ∧
    oC.data = .cell cC ∧ oM.data = .cell cM ∧ oT.data = .cell (some (.ref D)) ∧ m (Str.ofString "best") = some bt ∧ m (Str.ofString "first") = some (.ref l1) ∧ m (Str.ofString "second") = some (.ref l2) ∧ BestAdd bt add (b i) ∧
    (∀ p ∈ add, p.1 ≠ L' + 1 + 1 + 1 ∧ p.1 ≠ L' + 1 + 1)
theorem mem_turn {p i a b c d e f x y p1 p2 p3 p4 : Addr × Obj} {l r : List (Addr × Obj)} (h : p ∈ i :: a :: b :: c :: d :: e :: f :: ((x :: y :: l) ++ r)) : p ∈ x :: y :: p1 :: p2 :: p3 :: p4 :: i :: a :: b :: c :: d :: e :: f :: (l ++ r) := by
  simp only [List.cons_append, List.mem_cons] at h ⊢
  rcases h with h | h | h | h | h | h | h | h | h | h <;> simp [h]
theorem mem_done {p a b c d e f x y : Addr × Obj} {l r : List (Addr × Obj)} (h : p ∈ a :: b :: x :: y :: r) : p ∈ a :: b :: c :: d :: e :: f :: ((x :: y :: l) ++ r) := by
  simp only [List.cons_append, List.mem_cons, List.mem_append] at h ⊢
  rcases h with h | h | h | h | h <;> simp [h]
local macro_rules | `(tactic| walk_at "exec If") => `(tactic| (k_here; (with_reducible show wpAny _ _ (exec (Stmt.If (Expr.BoolOp _ _ _) _ _ _) _) _ _ _); (have hq9 : True := by (rename BestAdd _ _ _ => hb9); trivial); clear hq9; refine Stop.intro ?_))
local macro_rules | `(tactic| walk_at "compareOp Is none none") => `(tactic| (k_here; (with_reducible show wpAny _ _ (compareOp CmpOp.Is Value.none Value.none) _ _ _); refine wpAny_is_self (by rfl) ?_))
local macro_rules | `(tactic| walk_at "compareOp Is") => `(tactic| (k_here; (with_reducible show wpAny _ _ (compareOp CmpOp.Is Value.none Value.none) _ _ _); refine wpAny_is_self (by rfl) ?_))
set_option maxRecDepth 100000 in
set_option maxHeartbeats 8000000 in
theorem fewest_spec {w : World} {mean : ExcName → Option Value} {mg mb : Str → Option Value} {dp un : Nat} {gd : Option (List Code)} {cn : Str} {cs : Scope} {a : Addr} {ccd : Value} {cl : List (Str × Addr)} {outer : List Env} {A₀ : Around} {base h₀ : Heap} {L : Addr} {m : Str → Option Value} {s : Shared}
    {Q E : Value → Shared → Prop} {l1 l2 : Addr} {vs1 vs2 : List Value} {ks1 ks2 : List Int} {n1 n2 : Nat} {rest : List (Addr × Obj)} (B : Below A₀ base outer h₀) (F : Fr h₀ L s.heap m) (X : (hd.heap_39 w.params).In h₀) (N : News h₀ L s.heap ((l1, listOf vs1.toArray n1) :: (l2, listOf vs2.toArray n2) :: rest))
    (T : Top hd.view_39 (looseW hd.view_39 [Str.ofString "tspecials", Str.ofString "_name_disallowed_re", Str.ofString "_value_disallowed_re", Str.ofString "_formatparam"]) mean mg mb h₀)
    (hk : cs.kind = .function) (hdp : dp + 8 < recursionLimit) (hu : un + 80 < cLine) (hi1 : IntsAre vs1 ks1) (hi2 : IntsAre vs2 ks2) (hk1 : ∀ k ∈ ks1, Kd k) (hk2 : ∀ k ∈ ks2, Kd k) (hz1 : ks1.length ≤ 200) (hz2 : ks2.length ≤ 200)
    (hret : ∀ t lo tc tm tq lv nlo nt c mk k ls h' tk', few ks1 ks2 8 = some (c, mk, k, ls) → IntsAre lv.toList ls → Fr h₀ L h' m → News h₀ L h' ((l1, listOf vs1.toArray n1) :: (l2, listOf vs2.toArray n2) :: (t, tupB c mk k tc tm tq lo nt) :: (lo, listOf lv nlo) :: rest) → Q (.ref t) { s with heap := h', toks := tk' }) :
    wpAny (model Challenge.rw_dj5017_01.row.prog w) (ktrTop dp un gd cn cs L a ccd cl outer) (call (.ref 202) [.ref l1, .ref l2] []) Q E s := by
  w_top off
  revert X; k_fill; intro X
  refine wpAny_call ?_
  (refine' code_defC ?k1 ?k2 ?k3 ?k4 ?k5 ?kA ?kF ?kK ?k6 ?k7 ?k8 ?k9 ?kB ?kD ?_ ?c2 ?c3 ?c4; (case kA => exact rfl); (case kF => exact rfl); (case kK => assumption); (case k1 => k_asm); (case k2 => k_asm); (case k3 => k_asm); (case k4 => k_asm); (case k5 => k_asm); (case k6 => k_is); (case k7 => k_is); (case k8 => ktr_room); (case k9 => first | exact BindsTo.of_eq rfl | exact binds_K (by k_in) rfl (by k_is) rfl rfl rfl); (case kB => exact rfl); (case kD => decide +kernel); (case c2 => exact rfl); (case c3 => exact rfl); (case c4 => exact rfl); k_whole; intro g' L' h' tk' cells' FG' F' N' Y' B' X' T' lq1; have lw := lq1; (try k_lt lq1); k_cells Y'; (try simp only [List.cons_append, List.nil_append] at N'); (try dsimp only); (try k_lift B'); (try k_fold))
  k_steps
  refine stop_of ?_
  rename Fr _ _ _ _ => FF0
  (with_reducible refine' for_core FF0 ?h ?hs ?hE)
  (case hs => intro _; with_unfolding_all rfl)
  (case hE => passes_own)
  k_steps
  rename IsRange _ _ _ _ _ _ _ _ => hR
  rename News g' _ _ _ => NN
  rename Fr g' _ _ _ => FF
  obtain ⟨D, ysT, oC, oM, oT, cC, cM, NN3, hI8, dC, dM, dT, hD1, hD2, hD3⟩ : ∃ D ysT oC oM oT cC cM, News g' _ _ ((D, LCg.lst ysT) :: (L' + 1 + 1 + 1, oC) :: (L' + 1 + 1, oM) :: (L' + 1, oT) :: (l1, listOf vs1.toArray n1) :: (l2, listOf vs2.toArray n2) :: rest) ∧ IntsAre ysT (ks1.map fun k => ofk k) ∧ oC.data = .cell cC ∧ oM.data = .cell cM ∧ oT.data = .cell (some (.ref D)) ∧ @Ne Nat (L' + 1 + 1 + 1) D ∧ @Ne Nat (L' + 1 + 1) D ∧ @Ne Nat (L' + 1) D :=
    ⟨_, _, _, _, _, _, _, NN, by assumption, by assumption, by assumption, by assumption, by omega, by omega, by omega⟩
  refine loop_range (n := 8) rfl hR rfl rfl FF (news_sub NN3 (news' := (l1, listOf vs1.toArray n1) :: (l2, listOf vs2.toArray n2) :: (L' + 1 + 1 + 1, oC) :: (L' + 1 + 1, oM) :: (L' + 1, oT) :: (D, LCg.lst ysT) :: ([] ++ rest)) (fun p hp => by simp only [List.mem_cons, List.nil_append] at hp ⊢; rcases hp with h | h | h | h | h | h | h <;> simp [h])) (FewJ L' D l1 l2 ysT vs1 vs2 n1 n2 rest (few ks1 ks2)) ?_ ?_ ?_
  · exact ⟨_, [], oC, oM, oT, _, _, rfl, dC, dM, dT, rfl, rfl, rfl, rfl, fun _ hp => nomatch hp⟩
  · rintro i tv m₁ nx h1 tk1 I oI hi ⟨bt, add, oC1, oM1, oT1, cC1, cM1, rfl, eC, eM, eT, mb, m1, m2, hb, hadd⟩ hnI F1 N1 hoI9
    have F1a := fr_known3 F1 mb m1 m2
    clear F1 FF NN NN3 dC dM dT hR
    revert F1a N1
    (repeat (rename Fr g' _ _ _ => hz9; clear hz9))
    (repeat (rename News g' _ _ _ => hz9; clear hz9))
    (repeat (rename (_ = Data.cell (bindC _ _ _ _)) => hz9; clear hz9))
    intro N1 F1a
    have hnI0 := neN (hnI _ (.tail _ (.tail _ (.head _))))
    have hnI1 := neN (hnI _ (.tail _ (.tail _ (.tail _ (.head _)))))
    have hnI2 := neN (hnI _ (.tail _ (.tail _ (.tail _ (.tail _ (.head _))))))
    dsimp only at hnI0 hnI1 hnI2
    have hrs : ∀ p ∈ rest, p.1 < L' := fun p hp => lw p (.tail _ (.tail _ hp))
    have hoc : ∀ p ∈ add ++ rest, p.1 ≠ L' + 1 + 1 + 1 := fun p hp e => by
      rcases List.mem_append.mp hp with q | q
      · exact (hadd p q).1 e
      · exact absurd (hrs p q) (by rw [e]; exact Nat.not_lt.mpr (Nat.le_add_right L' 3))
    have hom : ∀ p ∈ add ++ rest, p.1 ≠ L' + 1 + 1 := fun p hp e => by
      rcases List.mem_append.mp hp with q | q
      · exact (hadd p q).2 e
      · exact absurd (hrs p q) (by rw [e]; exact Nat.not_lt.mpr (Nat.le_add_right L' 2))
    have hoa : ∀ p ∈ add ++ rest, p.1 ≠ I := fun p hp => hnI p (.tail _ (.tail _ (.tail _ (.tail _ (.tail _ (.tail _ hp))))))
    refine wpAny_assign_Name ?_
    k_steps
    (all_goals (try k_data))
    · refine stop_of ?_
      rename (List.take _ _ = _) => hfit
      rename IntsAre _ (List.map _ (List.drop _ _)) => hY
      rename IntsAre _ (List.drop _ _) => hT
      rename IntsAre _ (List.map (fun a => a) _) => hK0
      simp only [List.map_id', Int.toNat_natCast] at hY
      simp only [List.map_id', Int.toNat_natCast] at hT
      simp only [List.map_id'] at hK0
      simp only [List.map_id', Int.toNat_natCast] at hfit
      have hY2 : IntsAre _ ((ks2.drop (keptOf ks1 i).length).map fun k => ofk k) := hY
      have hT2 : IntsAre _ (ks2.drop (keptOf ks1 i).length) := hT
      have hK2 : IntsAre _ (keptOf ks1 i) := hK0
      have hfit2 : ks2.take (keptOf ks1 i).length = keptOf ks1 i := hfit
      have hkl9 : (keptOf ks1 i).length ≤ ks1.length := List.length_filter_le _ _
      clear hY hT hK0 hfit
      (repeat (rename CarriedAll _ _ => hC0; clear hC0))
      rename Fr _ _ _ _ => FF0
      (with_reducible refine' asg_range (lostP ks1 ks2 i) FF0 ?hsw ?hL ?hh ?hclos ?hcell ?hkind ?hnames ?hx ?hy ?hp ?h ?hs)
      (case hsw => with_unfolding_all rfl); (case hL => with_unfolding_all rfl); (case hh => with_unfolding_all rfl); (case hclos => with_unfolding_all rfl); (case hcell => decide); (case hkind => with_unfolding_all rfl); (case hnames => decide); (case hx => with_unfolding_all rfl); (case hy => with_unfolding_all rfl); (case hp => with_unfolding_all rfl); (case hs => intro _; with_unfolding_all rfl)
      k_steps
      refine stop_of ?_
      rename IsRange _ _ _ _ _ _ _ _ => hR2
      rename Fr _ _ _ _ => FF2
      rename News _ _ _ _ => NN2
      refine ⟨_, _, _, _, _, rfl, hR2, FF2, NN2, ?_, ?_, ?_⟩
      · intro C c t s2 m2 E2 hC hc0 hc3 hns hm2 hk2
        (try ((rename (∀ b o, Heap.get? _ b = some o → Heap.get? _ b = some o) => hk'); (repeat ((rename Heap.IsList _ _ _ => x'); first | (have y' := lstInComp x' hk'; revert y'; revert x') | (have y' := lstInComp (Fr.lst FF2 x') hk'; revert y'; revert x') | revert x')); intros))
        k_steps
        all_goals (refine stop_of ⟨?_, ⟨_, _, rfl, fun _ _ e => e⟩⟩)
        all_goals (first
          | (rename (Builtin.bitAnd _ _ ≠ 0) => e1; simp only [lostP, beq_eq_false_iff_ne.mpr e1, Bool.false_and])
          | (rename (Builtin.bitAnd _ _ = 0) => e1; rename (List.any (List.map _ (List.drop _ _)) _ = _) => e3; rename (List.any (List.map _ ks1) _ = _) => e2; simp only [lostP, e1, e2, e3]; (first | rfl | simp))
          | (rename (Builtin.bitAnd _ _ = 0) => e1; rename (List.any (List.map _ ks1) _ = _) => e2; simp only [lostP, e1, e2]; (first | rfl | simp)))
      · intro C c t s2 m2 E2 hC hc0 hc3 hns hm2 hk2
        k_steps
        refine stop_of ⟨.int _ _, ⟨_, _, rfl, fun _ _ e => e⟩⟩
      · intro D9 ys9 n9 h9 tk9 F9 N9 hD9 hI9
        have hl9 : (List.filter (lostP ks1 ks2 i) (rangeInts 0 1 3)).length ≤ 3 := List.length_filter_le _ _
        k_steps
        refine stop_of ?_
        clear hret hR2
        cases hbi : few ks1 ks2 i with
        | none =>
          rw [hbi] at hb
          cases hb
          k_steps
          rename Fr g' L' _ _ => FE
          rename News g' L' _ _ => NE
          obtain ⟨t, p1, p2, p3, p4, oC2, oM2, cC2, cM2, tc, tm, tq, mm, NE2, hC2, hM2, hIt, hLt, FE2, q1, q2, q3⟩ : ∃ t p1 p2 p3 p4 oC2 oM2 cC2 cM2 tc tm tq mm, News g' _ _ ((t, tupB (((ks2.drop (keptOf ks1 i).length).length : Int) + ((lostOf ks1 ks2 i).length : Int)) (i : Int) ((keptOf ks1 i).length : Int) tc tm tq D9 0) :: (D9, listOf ys9.toArray n9) :: p1 :: p2 :: p3 :: p4 :: (I, oI) :: (l1, listOf vs1.toArray n1) :: (l2, listOf vs2.toArray n2) :: (L' + 1 + 1 + 1, oC2) :: (L' + 1 + 1, oM2) :: (L' + 1, oT1) :: (D, LCg.lst ysT) :: (add ++ rest)) ∧ oC2.data = .cell cC2 ∧ oM2.data = .cell cM2 ∧ @Ne Nat t I ∧ (@Ne Nat t (L' + 1 + 1 + 1) ∧ @Ne Nat t (L' + 1 + 1)) ∧ Fr g' _ _ mm ∧ mm (Str.ofString "best") = some (.ref t) ∧ mm (Str.ofString "first") = some (.ref l1) ∧ mm (Str.ofString "second") = some (.ref l2) :=
            ⟨_, _, _, _, _, _, _, _, _, _, _, _, _, NE, by assumption, by assumption, by omega, ⟨by omega, by omega⟩, FE, rfl, rfl, rfl⟩
          refine TurnEnd.next FE2 NE2 (nx := (l1, listOf vs1.toArray n1) :: (l2, listOf vs2.toArray n2) :: (L' + 1 + 1 + 1, oC2) :: (L' + 1 + 1, oM2) :: (L' + 1, oT1) :: (D, LCg.lst ysT) :: (((t, tupB (((ks2.drop (keptOf ks1 i).length).length : Int) + ((lostOf ks1 ks2 i).length : Int)) (i : Int) ((keptOf ks1 i).length : Int) tc tm tq D9 0) :: (D9, listOf ys9.toArray n9) :: add) ++ rest)) ?_ ?_ ?_
          · exact fun p hp => mem_turn hp
          · intro p hp
            rcases List.mem_cons.mp hp with rfl | hp
            · exact hnI _ (.head _)
            rcases List.mem_cons.mp hp with rfl | hp
            · exact hnI _ (.tail _ (.head _))
            rcases List.mem_cons.mp hp with rfl | hp
            · exact hnI0
            rcases List.mem_cons.mp hp with rfl | hp
            · exact hnI1
            rcases List.mem_cons.mp hp with rfl | hp
            · exact hnI2
            rcases List.mem_cons.mp hp with rfl | hp
            · exact hnI _ (.tail _ (.tail _ (.tail _ (.tail _ (.tail _ (.head _))))))
            rcases List.mem_cons.mp hp with rfl | hp
            · exact hIt
            rcases List.mem_cons.mp hp with rfl | hp
            · exact (hD9 _ (.tail _ (.tail _ (.tail _ (.tail _ (.head _)))))).symm
            · exact hoa p hp
          · refine ⟨.ref t, (t, tupB _ _ _ tc tm tq D9 0) :: (D9, listOf ys9.toArray n9) :: add, oC2, oM2, oT1, _, _, rfl, hC2, hM2, eT, q1, q2, q3, ?_, ?_⟩
            · rw [few_first hfit2 hbi]
              exact ⟨t, D9, tc, tm, tq, ys9.toArray, n9, 0, _, rfl, rfl, by simpa [lostOf] using hI9⟩
            · intro p hp
              rcases List.mem_cons.mp hp with rfl | hp
              · exact hLt
              rcases List.mem_cons.mp hp with rfl | hp
              · exact ⟨(hD9 _ (.tail _ (.tail _ (.tail _ (.tail _ (.tail _ (.tail _ (.tail _ (.head _))))))))).symm, (hD9 _ (.tail _ (.tail _ (.tail _ (.tail _ (.tail _ (.tail _ (.tail _ (.tail _ (.head _)))))))))).symm⟩
              · exact hadd p hp
        | some bb =>
          obtain ⟨bc, bm, bk, bl⟩ := bb
          rw [hbi] at hb
          obtain ⟨bt1, blo, btc, btm, btq, blv, bnlo, bnt, badd, rfl, rfl, hbls⟩ := hb
          rename News g' L' _ _ => NB
          simp only [List.cons_append] at NB
          k_steps
          · rename Fr g' L' _ _ => FE
            rename News g' L' _ _ => NE
            obtain ⟨t, p1, p2, p3, p4, oC2, oM2, cC2, cM2, tc, tm, tq, mm, NE2, hC2, hM2, hIt, hLt, FE2, q1, q2, q3⟩ : ∃ t p1 p2 p3 p4 oC2 oM2 cC2 cM2 tc tm tq mm, News g' _ _ ((t, tupB (((ks2.drop (keptOf ks1 i).length).length : Int) + ((lostOf ks1 ks2 i).length : Int)) (i : Int) ((keptOf ks1 i).length : Int) tc tm tq D9 0) :: (D9, listOf ys9.toArray n9) :: p1 :: p2 :: p3 :: p4 :: (I, oI) :: (l1, listOf vs1.toArray n1) :: (l2, listOf vs2.toArray n2) :: (L' + 1 + 1 + 1, oC2) :: (L' + 1 + 1, oM2) :: (L' + 1, oT1) :: (D, LCg.lst ysT) :: (((bt1, tupB bc bm bk btc btm btq blo bnt) :: (blo, listOf blv bnlo) :: badd) ++ rest)) ∧ oC2.data = .cell cC2 ∧ oM2.data = .cell cM2 ∧ @Ne Nat t I ∧ (@Ne Nat t (L' + 1 + 1 + 1) ∧ @Ne Nat t (L' + 1 + 1)) ∧ Fr g' _ _ mm ∧ mm (Str.ofString "best") = some (.ref t) ∧ mm (Str.ofString "first") = some (.ref l1) ∧ mm (Str.ofString "second") = some (.ref l2) :=
              ⟨_, _, _, _, _, _, _, _, _, _, _, _, _, NE, by assumption, by assumption, by omega, ⟨by omega, by omega⟩, FE, rfl, rfl, rfl⟩
            refine TurnEnd.next FE2 NE2 (nx := (l1, listOf vs1.toArray n1) :: (l2, listOf vs2.toArray n2) :: (L' + 1 + 1 + 1, oC2) :: (L' + 1 + 1, oM2) :: (L' + 1, oT1) :: (D, LCg.lst ysT) :: (((t, tupB (((ks2.drop (keptOf ks1 i).length).length : Int) + ((lostOf ks1 ks2 i).length : Int)) (i : Int) ((keptOf ks1 i).length : Int) tc tm tq D9 0) :: (D9, listOf ys9.toArray n9) :: ((bt1, tupB bc bm bk btc btm btq blo bnt) :: (blo, listOf blv bnlo) :: badd)) ++ rest)) ?_ ?_ ?_
            · exact fun p hp => mem_turn hp
            · intro p hp
              rcases List.mem_cons.mp hp with rfl | hp
              · exact hnI _ (.head _)
              rcases List.mem_cons.mp hp with rfl | hp
              · exact hnI _ (.tail _ (.head _))
              rcases List.mem_cons.mp hp with rfl | hp
              · exact hnI0
              rcases List.mem_cons.mp hp with rfl | hp
              · exact hnI1
              rcases List.mem_cons.mp hp with rfl | hp
              · exact hnI2
              rcases List.mem_cons.mp hp with rfl | hp
              · exact hnI _ (.tail _ (.tail _ (.tail _ (.tail _ (.tail _ (.head _))))))
              rcases List.mem_cons.mp hp with rfl | hp
              · exact hIt
              rcases List.mem_cons.mp hp with rfl | hp
              · exact (hD9 _ (.tail _ (.tail _ (.tail _ (.tail _ (.head _)))))).symm
              · exact hoa p hp
            · refine ⟨.ref t, (t, tupB _ _ _ tc tm tq D9 0) :: (D9, listOf ys9.toArray n9) :: ((bt1, tupB bc bm bk btc btm btq blo bnt) :: (blo, listOf blv bnlo) :: badd), oC2, oM2, oT1, _, _, rfl, hC2, hM2, eT, q1, q2, q3, ?_, ?_⟩
              · rw [few_less hfit2 hbi (by assumption)]
                exact ⟨t, D9, tc, tm, tq, ys9.toArray, n9, 0, _, rfl, rfl, by simpa [lostOf] using hI9⟩
              · intro p hp
                rcases List.mem_cons.mp hp with rfl | hp
                · exact hLt
                rcases List.mem_cons.mp hp with rfl | hp
                · exact ⟨(hD9 _ (.tail _ (.tail _ (.tail _ (.tail _ (.tail _ (.tail _ (.tail _ (.head _))))))))).symm, (hD9 _ (.tail _ (.tail _ (.tail _ (.tail _ (.tail _ (.tail _ (.tail _ (.tail _ (.head _)))))))))).symm⟩
                · exact hadd p hp
          · rename Fr g' L' _ _ => FE
            rename News g' L' _ _ => NE
            obtain ⟨p0, p1, p2, p3, p4, oC2, oM2, cC2, cM2, mm, NE2, hC2, hM2, FE2, q1, q2, q3⟩ : ∃ p0 p1 p2 p3 p4 oC2 oM2 cC2 cM2 mm, News g' _ _ (p0 :: p1 :: p2 :: p3 :: p4 :: (I, oI) :: (l1, listOf vs1.toArray n1) :: (l2, listOf vs2.toArray n2) :: (L' + 1 + 1 + 1, oC2) :: (L' + 1 + 1, oM2) :: (L' + 1, oT1) :: (D, LCg.lst ysT) :: (((bt1, tupB bc bm bk btc btm btq blo bnt) :: (blo, listOf blv bnlo) :: badd) ++ rest)) ∧ oC2.data = .cell cC2 ∧ oM2.data = .cell cM2 ∧ Fr g' _ _ mm ∧ mm (Str.ofString "best") = some (.ref bt1) ∧ mm (Str.ofString "first") = some (.ref l1) ∧ mm (Str.ofString "second") = some (.ref l2) :=
              ⟨_, _, _, _, _, _, _, _, _, _, NE, by assumption, by assumption, FE, rfl, rfl, rfl⟩
            refine TurnEnd.next FE2 NE2 (nx := (l1, listOf vs1.toArray n1) :: (l2, listOf vs2.toArray n2) :: (L' + 1 + 1 + 1, oC2) :: (L' + 1 + 1, oM2) :: (L' + 1, oT1) :: (D, LCg.lst ysT) :: (((bt1, tupB bc bm bk btc btm btq blo bnt) :: (blo, listOf blv bnlo) :: badd) ++ rest)) (fun p hp => .tail _ (.tail _ (.tail _ (.tail _ (.tail _ hp))))) ?_ ?_
            · intro p hp
              rcases List.mem_cons.mp hp with rfl | hp
              · exact hnI _ (.head _)
              rcases List.mem_cons.mp hp with rfl | hp
              · exact hnI _ (.tail _ (.head _))
              rcases List.mem_cons.mp hp with rfl | hp
              · exact hnI0
              rcases List.mem_cons.mp hp with rfl | hp
              · exact hnI1
              · exact hnI _ (.tail _ (.tail _ (.tail _ (.tail _ hp))))
            · exact ⟨.ref bt1, _, oC2, oM2, oT1, _, _, rfl, hC2, hM2, eT, q1, q2, q3, by rw [few_more hfit2 hbi (by assumption)]; exact ⟨bt1, blo, btc, btm, btq, blv, bnlo, bnt, badd, rfl, rfl, hbls⟩, hadd⟩
    · rename (¬ List.take _ _ = _) => hfit
      simp only [List.map_id', Int.toNat_natCast] at hfit
      have hfit2 : ¬ ks2.take (keptOf ks1 i).length = keptOf ks1 i := hfit
      rename Fr g' L' _ _ => FE
      rename News g' L' _ _ => NE
      obtain ⟨p1, p2, oM2, cM2, NE2, hM2⟩ : ∃ p1 p2 oM2 cM2, News g' _ _ (p1 :: p2 :: (I, oI) :: (l1, listOf vs1.toArray n1) :: (l2, listOf vs2.toArray n2) :: (L' + 1 + 1 + 1, oC1) :: (L' + 1 + 1, oM2) :: (L' + 1, oT1) :: (D, LCg.lst ysT) :: (add ++ rest)) ∧ oM2.data = .cell cM2 := ⟨_, _, _, _, NE, by assumption⟩
      refine TurnEnd.next FE NE2 (nx := (l1, listOf vs1.toArray n1) :: (l2, listOf vs2.toArray n2) :: (L' + 1 + 1 + 1, oC1) :: (L' + 1 + 1, oM2) :: (L' + 1, oT1) :: (D, LCg.lst ysT) :: (add ++ rest)) (fun p hp => .tail _ (.tail _ hp)) ?_ ?_
      · intro p hp
        rcases List.mem_cons.mp hp with rfl | hp
        · exact hnI _ (.head _)
        rcases List.mem_cons.mp hp with rfl | hp
        · exact hnI _ (.tail _ (.head _))
        rcases List.mem_cons.mp hp with rfl | hp
        · exact hnI0
        rcases List.mem_cons.mp hp with rfl | hp
        · exact hnI1
        · exact hnI _ (.tail _ (.tail _ (.tail _ (.tail _ hp))))
      · exact ⟨bt, add, oC1, oM2, oT1, _, _, rfl, eC, hM2, eT, rfl, rfl, rfl, by rw [few_miss hfit2]; exact hb, hadd⟩
  · rintro h1 tk1 m₁ nx F1 N1 ⟨bt, add, oC1, oM1, oT1, cC1, cM1, rfl, eC, eM, eT, mb, m1, m2, hb, hadd⟩
    obtain ⟨⟨bc, bm, bk, bl⟩, hbb⟩ := Option.isSome_iff_exists.mp (few_some ks1 ks2)
    rw [hbb] at hb
    obtain ⟨t, lo, tc, tm, tq, lv, nlo, nt, add', rfl, rfl, hls⟩ := hb
    have F1a := fr_known F1 mb
    have N1b := news_sub N1 (news' := (l1, listOf vs1.toArray n1) :: (l2, listOf vs2.toArray n2) :: (t, tupB bc bm bk tc tm tq lo nt) :: (lo, listOf lv nlo) :: rest) (fun p hp => mem_done hp)
    clear F1 N1 FF NN NN3
    (try dsimp only)
    k_steps
    exact hret t lo tc tm tq lv nlo nt bc bm bk bl _ _ hbb hls (by assumption) (by assumption)
end Mine
namespace Mine

section
variable {prog : Program} {w : World} {A : Around} {E : Value → Shared → Prop} {s : Shared} {h₀ : Heap} {L : Addr} {m : Str → Option Value} {env : Env}
theorem kf_ints_of {vs : List Value} {ns : List Int} (h : IntsAre vs ns) : kf_ints vs = true := by
  induction h with
  | nil => rfl
  | cons n t _ ih => simpa [kf_ints] using ih
theorem kf_at_of {vs : List Value} {ns : List Int} {k : Int} (h : IntsAre vs ns) (hk : k ∈ ns) : ∃ j q, kf_at k vs = some j ∧ ki_delL vs j = some q ∧ IntsAre q (ns.erase k) := by
  induction h with
  | nil => cases hk
  | cons n t r ih =>
    rename_i vs0 ns0
    by_cases e : n = k
    · subst e
      refine ⟨0, vs0, ?_, rfl, ?_⟩
      · simp [kf_at, isInt]
      · rw [List.erase_cons_head]; exact r
    · have hk2 : k ∈ ns0 := by
        rcases List.mem_cons.mp hk with q | q
        · exact absurd q.symm e
        · exact q
      obtain ⟨j, q, e1, e2, e3⟩ := ih hk2
      refine ⟨j + 1, .int n t :: q, ?_, ?_, ?_⟩
      · simp [kf_at, isInt, beq_eq_false_iff_ne.mpr e, e1]
      · simp [ki_delL, e2]
      · rw [List.erase_cons_tail (by simpa using e)]; exact .cons _ _ e3
theorem remove_ints {D : Addr} {vs : List Value} {ns : List Int} {n : Nat} {k : Int} {t : Tok} {news : List (Addr × Obj)} {f : List Value → List (Addr × Obj)} {Q : Value → Shared → Prop} (F : Fr h₀ L s.heap m) (N : News h₀ L s.heap news) (hi : IntsAre vs ns) (hk : k ∈ ns) (hz : ns.length ≤ 1000) (U : ∀ q : List Value, Upd D (listOf vs.toArray n) (listOf q.toArray (n + 1)) news (f q))
    (h : ∀ q h', IntsAre q (ns.erase k) → Fr h₀ L h' m → News h₀ L h' (f q) → Q .none { s with heap := h' }) : wpAny (model prog w) A (call (.builtin "list.remove") [.ref D, .int k t]) Q E s := by
  obtain ⟨j, q, e1, e2, e3⟩ := kf_at_of hi hk
  exact kf_remove (its := vs.toArray) F N (kf_ints_of hi) e1 e2 (U q) (by rw [List.toList_toArray, hi.length, sizeLine_eq]; omega) fun h' F' N' => h q h' e3 F' N'
theorem ints_get {vs : List Value} {ns : List Int} (h : IntsAre vs ns) : ∀ {i : Nat} {v : Value}, vs[i]? = some v → ∃ n t, v = .int n t ∧ ns[i]? = some n := by
  induction h with
  | nil => intro i v e; cases i <;> cases e
  | cons n t _ ih =>
    intro i v e
    cases i with
    | zero => cases e; exact ⟨n, t, rfl, rfl⟩
    | succ i => exact ih e
theorem oth_mem (c : Int) : othk c ∈ heads := by
  unfold othk heads; repeat' split
  all_goals simp
theorem low_oth {c : Int} (h0 : 0 ≤ c) (h3 : c < 3) : low (othk c) = lck c := by
  have hc : c = 0 ∨ c = 1 ∨ c = 2 := by omega
  rcases hc with rfl | rfl | rfl
  · exact low_A
  · exact low_b
  · exact low_C
theorem tup_ne {h₀ h : Heap} {L a b : Addr} {k : Int} {o o' : Obj} {news : List (Addr × Obj)} (N : News h₀ L h news) (ma : (a, o) ∈ news) (mb : (b, o') ∈ news) (e : ∃ ty tz n, o = tupO k ty tz n) (e' : o'.cls ≠ .type "tuple") : a ≠ b := by
  rintro rfl
  obtain ⟨ty, tz, n, rfl⟩ := e
  have q := (N _ ma).1.symm.trans (N _ mb).1
  injection q with q
  dsimp only at q
  subst q
  exact e' rfl
theorem RowIn.up {h₀ : Heap} {news : List (Addr × Obj)} {vs : List Value} {ks : List Int} (r : RowIn h₀ [] vs ks) : RowIn h₀ news vs ks := r.mono (fun _ _ e => e) (fun _ q => nomatch q)
def RowK (pp : Params) (add : List (Addr × Obj)) (vs : List Value) (ks : List Int) : Prop := ∀ g nX, (hd.heap_39 pp).In g → (∀ p ∈ add, p ∈ nX) → RowIn g nX vs ks
theorem RowK.at {pp : Params} {g : Heap} {add nX : List (Addr × Obj)} {vs : List Value} {ks : List Int} (r : RowK pp add vs ks) (X : (hd.heap_39 pp).In g) (hs : ∀ p ∈ add, p ∈ nX) : RowIn g nX vs ks := r g nX X hs
theorem RowK.at0 {pp : Params} {g : Heap} {nX : List (Addr × Obj)} {vs : List Value} {ks : List Int} (r : RowK pp [] vs ks) (X : (hd.heap_39 pp).In g) : RowIn g nX vs ks := r g nX X (fun _ hp => nomatch hp)
theorem RowK.to {pp : Params} {add add' : List (Addr × Obj)} {vs vs' : List Value} {ks ks' : List Int} (r : RowK pp add vs ks) (q : RowTo add' vs vs' ks ks') : RowK pp (add' ++ add) vs' ks' :=
  fun g nX X hs => q g nX (fun p hp => hs p (List.mem_append.mpr (.inl hp))) (r g nX X (fun p hp => hs p (List.mem_append.mpr (.inr hp))))
theorem any_mem {l : List Int} {c : Int} (h : (l.any fun x => x == c) = true) : c ∈ l := by
  obtain ⟨x, hx, e⟩ := List.any_eq_true.mp h
  rw [← eq_of_beq e]; exact hx
theorem tup_of {p : Params} {h₀ : Heap} {a : Addr} {k : Int} {ty tz : Tok} (hg : ∀ g, (hd.heap_39 p).In g → g.get? a = some (tupO k ty tz 0)) (X : (hd.heap_39 p).In h₀) : IsTup h₀ a #[.str (nmk k) ty, .str (vlk k) tz] := ⟨_, hg _ X, rfl, _, rfl⟩
/-- [KINDS[x] for x in a list of kinds] -/
theorem kinds_lc {elt iter : Expr} {x : Str} {px : Pos} {scope : Scope} {cl : List (Str × Addr)} {pos : Pos} {Q : Value → Shared → Prop} (zF₀ : Fr h₀ L s.heap m) (X : (hd.heap_39 w.params).In h₀)
    (hh : A.handled = none) (hclos : closureFor scope env = pure cl) (hcell : ∀ y ∈ scope.names, y.2 ≠ .cell) (hkind : scope.kind = .function)
    (hnames : ∀ y ∈ scope.names, y.2 = .local → scope.names.lookup y.1 = some .local) (hx : scope.names.lookup x = some .local)
    (h : wpAny (model prog w) A (eval iter env) (fun xv s₁ => Stop (∃ news : List (Addr × Obj), ∃ (ax : Addr) (vs : List Value) (ks : List Int), xv = .ref ax ∧ s₁.heap.IsList ax vs.toArray ∧ IntsAre vs ks ∧ ks.length ≤ 1000 ∧ (∀ k ∈ ks, Kd k) ∧ Fr h₀ L s₁.heap m ∧ News h₀ L s₁.heap news ∧
      (∀ C k t s₂ m₂ E', s₁.heap.objs.size ≤ C → Kd k → s₂.heap.Ns (compEnvC scope cl C env).locals m₂ → m₂ x = some (.int k t) → (∀ b o, s₁.heap.get? b = some o → s₂.heap.get? b = some o) →
        wpAny (model prog w) A (eval elt (compEnvC scope cl C env)) (fun y s₃ => Stop ((∃ a ty tz, y = .ref a ∧ ∀ g, (hd.heap_39 w.params).In g → g.get? a = some (tupO k ty tz 0)) ∧ Keeps s₂ s₃)) E' s₂) ∧
      (∀ D (ys : List Value) n h' tk, Fr h₀ L h' m → News h₀ L h' ((D, listOf ys.toArray n) :: news) → (∀ p ∈ news, p.1 ≠ D) → RowK w.params [] ys ks → Q (.ref D) { s₁ with heap := h', toks := tk }))) E s)
    (hs : ∀ x, foldedSetIterable iter env x = pure x) :
    wpAny (model prog w) A (eval (.ListComp elt [⟨.Name x px, iter, [], 0⟩] scope pos) env) Q E s := by
  refine lc_any (fun _ => true) (fun v y => ∃ k t, v = .int k t ∧ ∃ a ty tz, y = .ref a ∧ ∀ g, (hd.heap_39 w.params).In g → g.get? a = some (tupO k ty tz 0)) zF₀ hh hclos hcell hkind hnames hx (wpAny_mono h (fun xv s₁ h₁ => ?_) fun _ _ e => e) hs
  obtain ⟨news, ax, vs, ks, rfl, hl, hi, hz, hkd, F, N, helt, hQ⟩ := h₁
  have hmem : ∀ {vs : List Value} {ks : List Int}, IntsAre vs ks → ∀ v ∈ vs, ∃ k ∈ ks, ∃ t, v = .int k t := by
    intro vs ks hi
    induction hi with
    | nil => intro v hv; cases hv
    | cons n t _ ih =>
      intro v hv
      rcases List.mem_cons.mp hv with rfl | hv
      · exact ⟨_, .head _, _, rfl⟩
      · obtain ⟨k, hk, t, e⟩ := ih v hv
        exact ⟨k, .tail _ hk, t, e⟩
  refine ⟨news, ax, vs, rfl, hl, (by rw [hi.length, sizeLine_eq]; omega), F, N, ?_, ?_, ?_⟩
  · intro C v s₂ m₂ E' hC hv hn hm hk
    exact wpAny_pure ⟨rfl, _, _, rfl, fun _ _ e => e⟩
  · intro C v s₂ m₂ E' hC hv _ hn hm hk
    obtain ⟨k, hkk, t, rfl⟩ := hmem hi v hv
    exact wpAny_mono (helt C k t s₂ m₂ E' hC (hkd k hkk) hn hm hk) (fun y s₃ h₃ => ⟨by obtain ⟨⟨a, ty, tz, e, hg⟩, _⟩ := h₃; exact ⟨k, t, rfl, a, ty, tz, e, hg⟩, h₃.2⟩) fun _ _ e => e
  · intro D ys n h' tk F' N' hD hp
    refine hQ D ys n h' tk F' N' hD ?_
    have e : vs.filter (fun _ => true) = vs := List.filter_eq_self.mpr fun _ _ => rfl
    rw [e] at hp
    clear hl hz hkd N' hmem helt hQ
    intro g nX X' _
    induction hp generalizing ks with
    | nil => cases hi; exact .nil
    | cons r _ ih =>
      cases hi with
      | cons n t hi =>
        obtain ⟨k, t', e, a, ty, tz, e2, hg⟩ := r
        cases e
        exact .cons ⟨a, ty, tz, 0, e2, .inr (hg _ X')⟩ (ih _ hi (List.filter_eq_self.mpr fun _ _ => rfl))
end
end Mine
namespace Mine
local macro_rules | `(tactic| k_all) => `(tactic| first | assumption | exact below_ne (by assumption) (by (first | omega | (dsimp only; omega))) (fun p hp => by simp [hp]))
local macro_rules | `(tactic| k_room) => `(tactic| ktr_room)
local macro_rules | `(tactic| walk_at "exec For") => `(tactic| (k_here; (with_reducible show wpAny _ _ (exec (Stmt.For (Expr.Name _ _) _ _ _ _) _) _ _ _); refine Stop.intro ?_))
local macro_rules | `(tactic| walk_at "exec For Name") => `(tactic| (k_here; (with_reducible show wpAny _ _ (exec (Stmt.For (Expr.Name _ _) _ _ _ _) _) _ _ _); refine Stop.intro ?_))
local macro_rules | `(tactic| walk_at "exec For Name Call") => `(tactic| (k_here; (with_reducible show wpAny _ _ (exec (Stmt.For (Expr.Name _ _) _ _ _ _) _) _ _ _); refine Stop.intro ?_))
local macro_rules | `(tactic| walk_at "exec For Name Name") => `(tactic| (k_here; (with_reducible show wpAny _ _ (exec (Stmt.For (Expr.Name _ _) _ _ _ _) _) _ _ _); refine Stop.intro ?_))
local macro_rules | `(tactic| walk_at "exec For Name Subscript") => `(tactic| (k_here; (with_reducible show wpAny _ _ (exec (Stmt.For (Expr.Name _ _) _ _ _ _) _) _ _ _); refine Stop.intro ?_))
local macro_rules | `(tactic| walk_at "exec For Name Call cons nil") => `(tactic| (k_here; (with_reducible show wpAny _ _ (exec (Stmt.For (Expr.Name _ _) _ _ _ _) _) _ _ _); refine Stop.intro ?_))
local macro_rules | `(tactic| walk_at "subscriptTail Name Name ref int") => `(tactic| (k_here; k_dflt (first
  | (refine' of_item ?k1 ?k2 ?k3 ?_ ?k4 ?k5; (case k1 => k_asm); (case k2 => k_asm); (case k3 => first | assumption | exact kd_mem (by assumption) (by assumption) | exact kd_mem (List.mem_of_mem_drop (by assumption)) (by assumption) | exact kd_mem (List.mem_of_mem_take (by assumption)) (by assumption)); (case k4 => with_unfolding_all rfl); (case k5 => intro _; with_unfolding_all rfl); k_whole; intro t9)
  | (refine' fold_item ?k1 ?k2 ?k3 ?_ ?k4 ?k5; (case k1 => k_asm); (case k2 => k_asm); (case k3 => first | assumption | exact kd_mem (by assumption) (by assumption) | exact kd_mem (List.mem_of_mem_drop (by assumption)) (by assumption) | exact kd_mem (List.mem_of_mem_take (by assumption)) (by assumption)); (case k4 => with_unfolding_all rfl); (case k5 => intro _; with_unfolding_all rfl); k_whole; intro t9))))
local macro_rules | `(tactic| walk_at "subscriptTail Name Name ref int") => `(tactic| (k_here; (with_reducible show wpAny _ _ (subscriptTail _ _ (Value.ref 194) _) _ _ _); k_dflt (refine' kinds_item ?k1 ?k2 ?k3 ?_ ?k4 ?k5; (case k1 => k_asm); (case k2 => k_asm); (case k3 => first | assumption | exact kd_mem (by assumption) (by assumption)); (case k4 => with_unfolding_all rfl); (case k5 => intro _; with_unfolding_all rfl); k_whole); intro a9 ty9 tz9 hg9; (try (have hT9 := tup_of hg9 (by assumption)))))
local macro_rules | `(tactic| walk_at "subscriptTail Name Name ref int") => `(tactic| (k_here; (with_reducible show wpAny _ _ (subscriptTail _ _ (Value.ref 197) _) _ _ _); k_dflt (refine' other_item ?k1 ?k2 ?k3 ?k6 ?_ ?k4 ?k5; (case k1 => k_asm); (case k2 => k_asm); (case k3 => assumption); (case k6 => assumption); (case k4 => with_unfolding_all rfl); (case k5 => intro _; with_unfolding_all rfl); k_whole); intro t9))
local macro_rules | `(tactic| walk_at "call builtin:len") => `(tactic| (k_here; (with_reducible show wpAny _ _ (call (Value.builtin _) [Value.ref _]) _ _ _); (with_unfolding_all refine' len_ints_fit ?k1 ?k2 ?k3 ?_; (case k1 => is_list); (case k2 => first | l_ints | exact CarriedAll.intsOf (by assumption)); (case k3 => first | l_fit | (simp only [List.length_map, List.length_drop, List.length_take]; exact Nat.lt_of_le_of_lt (List.length_filter_le _ _) (by omega)) | (simp only [List.length_map, List.length_drop, List.length_take]; omega) | exact Nat.lt_of_le_of_lt (List.length_filter_le _ _) (by rw [rangeInts_length]; omega) | omega); k_whole)))
local macro_rules | `(tactic| walk_at "binaryOp RShift int int") => `(tactic| (k_here; (with_reducible refine rshift_int (ofk_lo _) ?_)))
local macro_rules | `(tactic| k_ne) => `(tactic| first | (refine neN ?_; (try dsimp only); omega) | (refine ne_list_cell (by assumption) (by k_mem) (by k_mem) (by assumption)))
local macro_rules | `(tactic| walk_at "compareOp In int ref") => `(tactic| (k_here; (with_reducible show wpAny _ _ (compareOp _ (Value.int _ _) (Value.ref _)) _ _ _); (with_unfolding_all refine' in_ints ?k1 ?k2 ?_; (case k1 => is_list); (case k2 => first | assumption | l_ints); k_whole)))
local macro_rules | `(tactic| walk_at "compareOp NotIn int ref") => `(tactic| (k_here; (with_reducible show wpAny _ _ (compareOp _ (Value.int _ _) (Value.ref _)) _ _ _); (with_unfolding_all refine' notin_ints ?k1 ?k2 ?_; (case k1 => is_list); (case k2 => first | assumption | l_ints); k_whole)))
local macro_rules | `(tactic| walk_at "subscriptTail Name Slice ref ref") => `(tactic| (k_here; (with_reducible show wpAny _ _ (subscriptTail _ (PySem.Expr.Slice (some _) none none _) (Value.ref _) (Value.ref _)) _ _ _); k_dflt (refine' sl_from ?uF ?uN ?ul ?ui ?ux ?uz ?_ ?us ?ut; (case uF => k_asm); (case uN => k_asm); (case ul => kmk_list); (case ui => first | assumption | l_ints); (case ux => first | decide | exact Int.natCast_nonneg _ | omega); (case uz => (first | omega | (simp only [List.length_drop, List.length_take]; omega))); (case us => with_unfolding_all rfl); (case ut => kmk_pure); k_whole); intro D' ws' h' F' N' l1 hI'; (try k_lt l1); (try k_sweep)))
local macro_rules | `(tactic| walk_at "subscriptTail Name Slice ref ref") => `(tactic| (k_here; (with_reducible show wpAny _ _ (subscriptTail _ (PySem.Expr.Slice none (some _) none _) (Value.ref _) (Value.ref _)) _ _ _); k_dflt (refine' sl_upto ?uF ?uN ?ul ?ui ?ux ?uz ?_ ?us ?ut; (case uF => k_asm); (case uN => k_asm); (case ul => kmk_list); (case ui => first | assumption | l_ints); (case ux => first | decide | exact Int.natCast_nonneg _ | omega); (case uz => (first | omega | (simp only [List.length_drop, List.length_take]; omega))); (case us => with_unfolding_all rfl); (case ut => kmk_pure); k_whole); intro D' ws' h' F' N' l1 hI'; (try k_lt l1); (try k_sweep)))
local macro_rules | `(tactic| walk_at "eval ListComp") => `(tactic| (k_here; (with_reducible show wpAny _ _ (eval (Expr.ListComp (Expr.Subscript (Expr.Name (Str.ofString "_law_KINDS") _) _ _) _ _ _) _) _ _ _); refine Stop.intro ?_))
local macro_rules | `(tactic| walk_at "call ref") => `(tactic| (k_here; k_dflt (refine' headers_new (hz := ?hz) (hrow := ?hrow) ?q1 ?q2 ?q3 ?q4 ?q5 ?q6 ?q7 ?q8 ?_; (case q1 => k_asm); (case q2 => k_asm); (case q3 => k_asm); (case q4 => k_asm); (case q5 => k_asm); (case q6 => first | exact rfl | assumption); (case q7 => ktr_room); (case q8 => ktr_units); (case hz => omega); (case hrow => exact RowK.at0 (by assumption) (by assumption)); k_whole); intro x9 dx9 kt9 h9 tk9 F9 N9 l9 l99; (try dsimp only); (try k_fold)))
local macro_rules | `(tactic| walk_at "call ref") => `(tactic| (k_here; k_dflt (refine' del_spec (hz := ?hz) (hy := ?hy) (hc := ?hc) (hc0 := ?hc0) (hc3 := ?hc3) (hrow := ?hrow) (hoff := ?hoff) ?q1 ?q2 ?q3 ?q4 ?q5 ?q6 ?q7 ?q8 ?_; (case q1 => k_asm); (case q2 => k_asm); (case q3 => k_asm); (case q4 => k_asm); (case q5 => k_asm); (case q6 => first | exact rfl | assumption); (case q7 => ktr_room); (case q8 => ktr_units); (case hz => omega); (case hy => exact oth_mem _); (case hc => exact low_oth (by assumption) (by assumption)); (case hc0 => assumption); (case hc3 => assumption); (case hrow => exact RowK.at0 (by assumption) (by assumption)); (case hoff => assumption); k_whole); intro vs9 nl9 h9 tk9 F9 N9 R9; (try dsimp only); (try k_fold)))
local macro_rules | `(tactic| walk_at "delItem ref str") => `(tactic| (k_here; (with_reducible show wpAny _ _ (delItem (Value.ref _) _) _ _ _); k_dflt (refine' del_own ?F ?X ?I ?hQ ?hS ?hF ?_; (case F => k_asm); (case X => k_asm); (case I => k_inst); (case hS => k_is); (case hF => k_is); (case hQ => k_is); k_whole)))
local macro_rules | `(tactic| walk_at "delItem ref") => `(tactic| (k_here; (with_reducible show wpAny _ _ (delItem (Value.ref _) _) _ _ _); k_dflt (refine' del_own ?F ?X ?I ?hQ ?hS ?hF ?_; (case F => k_asm); (case X => k_asm); (case I => k_inst); (case hS => k_is); (case hF => k_is); (case hQ => k_is); k_whole)))
local macro_rules | `(tactic| walk_at "call ref") => `(tactic| (k_here; k_dflt (refine' set_spec (hz := ?hz) (hrow := ?hrow) (hoff := ?hoff) ?q1 ?q2 ?q3 ?q4 ?q5 ?q6 ?q7 ?q8 ?_; (case q1 => k_asm); (case q2 => k_asm); (case q3 => k_asm); (case q4 => k_asm); (case q5 => k_asm); (case q6 => first | exact rfl | assumption); (case q7 => ktr_room); (case q8 => ktr_units); (case hz => omega); (case hrow => exact RowK.at (by assumption) (by assumption) (fun q hq => by simp [hq])); (case hoff => first | assumption | exact List.forall_mem_cons.mpr ⟨by assumption, by assumption⟩); k_whole); intro vs9 nl9 add9 h9 tk9 F9 N9 hoff9 R9 A9; (try dsimp only); (try k_fold)))
local macro_rules | `(tactic| walk_at "call ref") => `(tactic| (k_here; k_dflt (refine' add_spec (hz := ?hz) (hrow := ?hrow) (hoff := ?hoff) ?q1 ?q2 ?q3 ?q4 ?q5 ?q6 ?q7 ?q8 ?_; (case q1 => k_asm); (case q2 => k_asm); (case q3 => k_asm); (case q4 => k_asm); (case q5 => k_asm); (case q6 => first | exact rfl | assumption); (case q7 => ktr_room); (case q8 => ktr_units); (case hz => omega); (case hrow => exact RowK.at (by assumption) (by assumption) (fun q hq => by simp [hq])); (case hoff => first | assumption | exact List.forall_mem_cons.mpr ⟨by assumption, by assumption⟩); k_whole); intro vs9 nl9 add9 h9 tk9 F9 N9 hoff9 R9 A9; (try dsimp only); (try k_fold)))
local macro_rules | `(tactic| walk_at "call ref") => `(tactic| (k_here; k_dflt (refine' items_spec (hz := ?hz) ?q1 ?q2 ?q3 ?q4 ?q5 ?q6 ?q7 ?q8 ?_; (case q1 => k_asm); (case q2 => k_asm); (case q3 => k_asm); (case q4 => k_asm); (case q5 => k_asm); (case q6 => first | exact rfl | assumption); (case q7 => ktr_room); (case q8 => ktr_units); (case hz => omega); k_whole); intro D9 h9 tk9 F9 N9 l9; (try dsimp only); (try k_fold)))
local macro_rules | `(tactic| walk_at "exec Assign cons ListComp") => `(tactic| (k_here; (with_reducible show wpAny _ _ (exec (Stmt.Assign [Expr.Name (Str.ofString "wiped") _] _ _) _) _ _ _); refine Stop.intro ?_))
local macro_rules | `(tactic| walk_at "exec Assign") => `(tactic| (k_here; (with_reducible show wpAny _ _ (exec (Stmt.Assign [Expr.Name (Str.ofString "wiped") _] _ _) _) _ _ _); refine Stop.intro ?_))
local macro_rules | `(tactic| walk_at "call builtin:list.remove") => `(tactic| (k_here; (with_reducible show wpAny _ _ (call (Value.builtin _) [Value.ref _, Value.int _ _]) _ _ _); k_dflt (refine' remove_ints ?uF ?uN ?ui ?uk ?uz ?uU ?_; (case uF => k_asm); (case uN => k_asm); (case uU => intro q9; k_upd); (case ui => assumption); (case uk => exact any_mem (by assumption)); (case uz => omega); k_whole); intro q9 h9 hi9 F9 N9; (try dsimp only)))

def wipedOf (mk : Int) : List Int := (rangeInts 0 1 3).filter fun c => Builtin.bitAnd (mk.fdiv (2 ^ c.toNat)) 1 == 0
def carStep (p : List Int × List Int) (x : Int) : List Int × List Int := if p.2.any (· == ofk x) then ((p.1.filter fun j => ofk j != ofk x) ++ [x], p.2.erase (ofk x)) else (p.1 ++ [x], p.2)
def delAll (ks ls : List Int) : List Int := ls.foldl (fun r c => r.filter fun k => ofk k != c) ks
def carK (ks1 ks2 : List Int) (mk bk : Int) (ls : List Int) : List Int := ((ks2.drop bk.toNat).foldl carStep (delAll ks1 ls, wipedOf mk)).1
def Car1 (pp : Params) (D x dx l2 : Addr) (kt : Tok) (ks1 ls : List Int) (base : List (Addr × Obj)) (i : Nat) (m : Str → Option Value) (nx : List (Addr × Obj)) : Prop :=
  ∃ vs' n', nx = (D, listOf vs'.toArray n') :: (x, instObj 184 dx) :: (dx, dictOf [⟨PyData.keyHash pp (Str.ofString "_headers"), .str (Str.ofString "_headers") kt, .ref D⟩] 1) :: base ∧ m (Str.ofString "table") = some (.ref x) ∧ m (Str.ofString "second") = some (.ref l2) ∧ RowK pp [] vs' (delAll ks1 (ls.take i)) ∧ vs'.length ≤ ks1.length
def Car2 (pp : Params) (D x dx W D2 : Addr) (kt : Tok) (ks1 tl ls : List Int) (mk : Int) (ws : List Value) (base : List (Addr × Obj)) (i : Nat) (m : Str → Option Value) (nx : List (Addr × Obj)) : Prop :=
  ∃ vs' n' wv' nw' add, nx = (D, listOf vs'.toArray n') :: (x, instObj 184 dx) :: (dx, dictOf [⟨PyData.keyHash pp (Str.ofString "_headers"), .str (Str.ofString "_headers") kt, .ref D⟩] 1) :: (W, listOf wv'.toArray nw') :: (D2, listOf ws.toArray 0) :: (add ++ base) ∧ m (Str.ofString "table") = some (.ref x) ∧ m (Str.ofString "wiped") = some (.ref W) ∧
    RowK pp add vs' ((tl.take i).foldl carStep (delAll ks1 ls, wipedOf mk)).1 ∧ IntsAre wv' ((tl.take i).foldl carStep (delAll ks1 ls, wipedOf mk)).2 ∧ ((tl.take i).foldl carStep (delAll ks1 ls, wipedOf mk)).2.length ≤ 3 ∧ vs'.length ≤ ks1.length + i ∧ (∀ p ∈ add, p.1 ≠ W ∧ p.1 ≠ D)
theorem take_next {α : Type} {l : List α} {i : Nat} {x : α} (h : l[i]? = some x) : l.take (i + 1) = l.take i ++ [x] := by
  rw [List.take_add_one, h]; rfl
theorem delAll_next {ks ls : List Int} {i : Nat} {c : Int} (h : ls[i]? = some c) : delAll ks (ls.take (i + 1)) = (delAll ks (ls.take i)).filter fun k => ofk k != c := by
  rw [take_next h, delAll, List.foldl_append]; rfl
theorem car_next {p : List Int × List Int} {tl : List Int} {i : Nat} {x : Int} (h : tl[i]? = some x) : (tl.take (i + 1)).foldl carStep p = carStep ((tl.take i).foldl carStep p) x := by
  rw [take_next h, List.foldl_append]; rfl
theorem car_in {p : List Int × List Int} {x : Int} (h : (p.2.any fun y => y == ofk x) = true) : carStep p x = ((p.1.filter fun j => ofk j != ofk x) ++ [x], p.2.erase (ofk x)) := if_pos h
theorem car_out {p : List Int × List Int} {x : Int} (h : (p.2.any fun y => y == ofk x) = false) : carStep p x = (p.1 ++ [x], p.2) := if_neg (by rw [h]; decide)
theorem car_len (p : List Int × List Int) (k : Int) : (carStep p k).1.length ≤ p.1.length + 1 := by
  unfold carStep
  split
  · have := List.length_filter_le (fun j => ofk j != ofk k) p.1
    simp only [List.length_append, List.length_singleton]; omega
  · simp
set_option maxRecDepth 100000 in
set_option maxHeartbeats 8000000 in
theorem carried_spec {w : World} {mean : ExcName → Option Value} {mg mb : Str → Option Value} {dp un : Nat} {gd : Option (List Code)} {cn : Str} {cs : Scope} {a : Addr} {ccd : Value} {cl : List (Str × Addr)} {outer : List Env} {A₀ : Around} {base h₀ : Heap} {L : Addr} {m : Str → Option Value} {s : Shared}
    {Q E : Value → Shared → Prop} {l1 l2 t lo : Addr} {vs1 vs2 lv : List Value} {ks1 ks2 ls : List Int} {n1 n2 nt nlo : Nat} {bc bm bk : Int} {tc tm tq : Tok} {rest : List (Addr × Obj)} (B : Below A₀ base outer h₀) (F : Fr h₀ L s.heap m) (X : (hd.heap_39 w.params).In h₀) (N : News h₀ L s.heap ((l1, listOf vs1.toArray n1) :: (l2, listOf vs2.toArray n2) :: (t, tupB bc bm bk tc tm tq lo nt) :: (lo, listOf lv.toArray nlo) :: rest))
    (T : Top hd.view_39 (looseW hd.view_39 [Str.ofString "tspecials", Str.ofString "_name_disallowed_re", Str.ofString "_value_disallowed_re", Str.ofString "_formatparam"]) mean mg mb h₀)
    (hk : cs.kind = .function) (hdp : dp + 12 < recursionLimit) (hu : un + 120 < cLine) (hi1 : IntsAre vs1 ks1) (hi2 : IntsAre vs2 ks2) (hls : IntsAre lv ls) (hk1 : ∀ k ∈ ks1, Kd k) (hk2 : ∀ k ∈ ks2, Kd k) (hz1 : ks1.length ≤ 200) (hz2 : ks2.length ≤ 200) (hl3 : ∀ c ∈ ls, 0 ≤ c ∧ c < 3) (hb0 : 0 ≤ bk)
    (hret : ∀ D ws nD add h' tk', Fr h₀ L h' m → News h₀ L h' ((D, listOf ws.toArray nD) :: (add ++ ((l1, listOf vs1.toArray n1) :: (l2, listOf vs2.toArray n2) :: (t, tupB bc bm bk tc tm tq lo nt) :: (lo, listOf lv.toArray nlo) :: rest))) → RowK w.params add ws (carK ks1 ks2 bm bk ls) → Q (.ref D) { s with heap := h', toks := tk' }) :
    wpAny (model Challenge.rw_dj5017_01.row.prog w) (ktrTop dp un gd cn cs L a ccd cl outer) (call (.ref 207) [.ref l1, .ref l2, .ref t] []) Q E s := by
  w_top off
  revert X; k_fill; intro X
  refine wpAny_call ?_
  (refine' code_defC ?k1 ?k2 ?k3 ?k4 ?k5 ?kA ?kF ?kK ?k6 ?k7 ?k8 ?k9 ?kB ?kD ?_ ?c2 ?c3 ?c4; (case kA => exact rfl); (case kF => exact rfl); (case kK => assumption); (case k1 => k_asm); (case k2 => k_asm); (case k3 => k_asm); (case k4 => k_asm); (case k5 => k_asm); (case k6 => k_is); (case k7 => k_is); (case k8 => ktr_room); (case k9 => first | exact BindsTo.of_eq rfl | exact binds_K (by k_in) rfl (by k_is) rfl rfl rfl); (case kB => exact rfl); (case kD => decide +kernel); (case c2 => exact rfl); (case c3 => exact rfl); (case c4 => exact rfl); k_whole; intro g' L' h' tk' cells' FG' F' N' Y' B' X' T' lq1; have lw := lq1; (try k_lt lq1); k_cells Y'; (try simp only [List.cons_append, List.nil_append] at N'); (try dsimp only); (try k_lift B'); (try k_fold))
  k_steps
  refine stop_of ?_
  rename Fr _ _ _ _ => FF0
  (with_reducible refine' kinds_lc FF0 ?X ?hh ?hclos ?hcell ?hkind ?hnames ?hx ?h ?hs)
  (case X => assumption); (case hh => with_unfolding_all rfl); (case hclos => with_unfolding_all rfl); (case hcell => decide); (case hkind => with_unfolding_all rfl); (case hnames => decide); (case hx => with_unfolding_all rfl); (case hs => intro _; with_unfolding_all rfl)
  k_steps
  refine stop_of ?_
  rename Fr _ _ _ _ => FF
  rename News _ _ _ _ => NN
  refine ⟨_, _, vs1, ks1, rfl, NN.isList (.tail _ (.head _)), hi1, by omega, hk1, FF, NN, ?_, ?_⟩
  · intro C k t s2 m2 E2 hC hkd hns hm2 hk2
    k_steps
    refine stop_of ⟨⟨_, _, _, rfl, by assumption⟩, ⟨_, _, rfl, fun _ _ e => e⟩⟩
  intro D ys n h1 tk1 F1 N1 hD hrow
  have hlen := (hrow.at0 X' (nX := [])).length
  k_steps
  refine stop_of ?_
  rename Fr _ _ _ _ => FF0
  (with_reducible refine' for_core FF0 ?h ?hs ?hE)
  (case hs => intro _; with_unfolding_all rfl)
  (case hE => passes_own)
  k_steps
  rename News g' L' _ _ => NN
  rename Fr g' L' _ _ => FF
  obtain ⟨x, dx, kt, oB, mm, N1, dB, F1, q1, q2, hbD⟩ : ∃ x dx kt oB mm, News g' L' _ ((D, listOf ys.toArray n) :: (x, instObj 184 dx) :: (dx, dictOf [⟨PyData.keyHash w.params (Str.ofString "_headers"), .str (Str.ofString "_headers") kt, .ref D⟩] 1) :: ((L' + 1, oB) :: (l1, listOf vs1.toArray n1) :: (l2, listOf vs2.toArray n2) :: (t, tupB bc bm bk tc tm tq lo nt) :: (lo, listOf lv.toArray nlo) :: rest)) ∧ oB.data = .cell (some (.ref t)) ∧ Fr g' L' _ mm ∧ mm (Str.ofString "table") = some (.ref x) ∧ mm (Str.ofString "second") = some (.ref l2) ∧ (∀ p ∈ ((L' + 1, oB) :: (l1, listOf vs1.toArray n1) :: (l2, listOf vs2.toArray n2) :: (t, tupB bc bm bk tc tm tq lo nt) :: (lo, listOf lv.toArray nlo) :: rest), p.1 ≠ D) := ⟨_, _, _, _, _, NN, by assumption, FF, rfl, rfl, hD⟩
  refine loop_list (its := lv) (nl := nlo) rfl F1 N1 (Car1 w.params D x dx l2 kt ks1 ls ((L' + 1, oB) :: (l1, listOf vs1.toArray n1) :: (l2, listOf vs2.toArray n2) :: (t, tupB bc bm bk tc tm tq lo nt) :: (lo, listOf lv.toArray nlo) :: rest)) ?_ ?_ ?_ ?_
  · exact ⟨ys, n, rfl, q1, q2, hrow, by omega⟩
  · rintro i m' nx ⟨vs', n', rfl, _⟩
    simp
  · rintro i v m₁ nx h2 tk2 I oI hv ⟨vs', n', rfl, m1, m2, hrow', hlen'⟩ hnI F2 N2 hoI
    obtain ⟨c, tc9, rfl, hc⟩ := ints_get hls hv
    obtain ⟨hc0, hc3⟩ := hl3 c (List.mem_of_getElem? hc)
    have hDI : D ≠ I := hnI (D, listOf vs'.toArray n') (.head _)
    have F2a := fr_known3 F2 m1 m2 m1
    have N2a := news_sub N2 (news' := (D, listOf vs'.toArray n') :: (x, instObj 184 dx) :: (dx, dictOf [⟨PyData.keyHash w.params (Str.ofString "_headers"), .str (Str.ofString "_headers") kt, .ref D⟩] 1) :: (I, oI) :: ((L' + 1, oB) :: (l1, listOf vs1.toArray n1) :: (l2, listOf vs2.toArray n2) :: (t, tupB bc bm bk tc tm tq lo nt) :: (lo, listOf lv.toArray nlo) :: rest)) (fun p hp => by simp only [List.mem_cons] at hp ⊢; rcases hp with h | h | h | h | h <;> simp [h])
    have hoffD : ∀ p ∈ (I, oI) :: ((L' + 1, oB) :: (l1, listOf vs1.toArray n1) :: (l2, listOf vs2.toArray n2) :: (t, tupB bc bm bk tc tm tq lo nt) :: (lo, listOf lv.toArray nlo) :: rest), p.1 ≠ D := List.forall_mem_cons.mpr ⟨(hnI _ (.head _)).symm, hbD⟩
    clear F2 N2 F1 N1 NN FF hrow
    refine wpAny_assign_Name ?_
    k_steps
    rename News g' _ _ _ => NE
    rename Fr g' _ _ _ => FE
    rename RowTo _ _ _ _ _ => R9
    obtain ⟨vs9, n9, mm9, NE2, R92, FE2, q3, q4⟩ : ∃ vs9 n9 mm9, News g' L' _ ((D, listOf vs9.toArray n9) :: (x, instObj 184 dx) :: (dx, dictOf [⟨PyData.keyHash w.params (Str.ofString "_headers"), .str (Str.ofString "_headers") kt, .ref D⟩] 1) :: (I, oI) :: ((L' + 1, oB) :: (l1, listOf vs1.toArray n1) :: (l2, listOf vs2.toArray n2) :: (t, tupB bc bm bk tc tm tq lo nt) :: (lo, listOf lv.toArray nlo) :: rest)) ∧ RowTo [] vs' vs9 (delAll ks1 (ls.take i)) ((delAll ks1 (ls.take i)).filter fun k => ofk k != c) ∧ Fr g' L' _ mm9 ∧ mm9 (Str.ofString "table") = some (.ref x) ∧ mm9 (Str.ofString "second") = some (.ref l2) := ⟨_, _, _, NE, R9, FE, rfl, rfl⟩
    have hl9 := (R92 g' [] (fun _ hp => nomatch hp) (hrow'.at0 X')).length
    have hl8 := (hrow'.at0 X' (nX := [])).length
    have hl7 := List.length_filter_le (fun k => ofk k != c) (delAll ks1 (ls.take i))
    refine TurnEnd.next FE2 NE2 (nx := (D, listOf vs9.toArray n9) :: (x, instObj 184 dx) :: (dx, dictOf [⟨PyData.keyHash w.params (Str.ofString "_headers"), .str (Str.ofString "_headers") kt, .ref D⟩] 1) :: ((L' + 1, oB) :: (l1, listOf vs1.toArray n1) :: (l2, listOf vs2.toArray n2) :: (t, tupB bc bm bk tc tm tq lo nt) :: (lo, listOf lv.toArray nlo) :: rest)) ?_ ?_ ?_
    · intro p hp
      simp only [List.mem_cons] at hp ⊢
      rcases hp with h | h | h | h | h <;> simp [h]
    · intro p hp
      rcases List.mem_cons.mp hp with rfl | hp
      · exact hDI
      · exact hnI p (.tail _ hp)
    · exact ⟨vs9, n9, rfl, q3, q4, by rw [delAll_next hc]; exact hrow'.to R92, by omega⟩
  · rintro h2 tk2 m₁ nx F2 N2 ⟨vs', n', rfl, m1, m2, hrow', hlen'⟩
    rw [hls.length, List.take_length] at hrow'
    have F2a := fr_known3 F2 m1 m2 m1
    clear F2 F1 N1 NN FF hrow
    (try dsimp only)
    k_steps
    refine stop_of ?_
    rename Fr _ _ _ _ => FF0
    (with_reducible refine' asg_range (fun c => Builtin.bitAnd (bm.fdiv (2 ^ c.toNat)) 1 == 0) FF0 ?gsw1 ?gL1 ?gh1 ?gclos1 ?gcell1 ?gkind1 ?gnames1 ?gx1 ?gy1 ?gp1 ?gm1 ?gs1)
    (case gsw1 => with_unfolding_all rfl); (case gL1 => with_unfolding_all rfl); (case gh1 => with_unfolding_all rfl); (case gclos1 => with_unfolding_all rfl); (case gcell1 => decide); (case gkind1 => with_unfolding_all rfl); (case gnames1 => decide); (case gx1 => with_unfolding_all rfl); (case gy1 => with_unfolding_all rfl); (case gp1 => with_unfolding_all rfl); (case gs1 => intro _; with_unfolding_all rfl)
    k_steps
    refine stop_of ?_
    rename IsRange _ _ _ _ _ _ _ _ => hR2
    rename Fr _ _ _ _ => FF2
    rename News _ _ _ _ => NN2
    refine ⟨_, _, _, _, _, rfl, hR2, FF2, NN2, ?_, ?_, ?_⟩
    · intro C c t9 s2 m2 E2 hC hc0 hc3 hns hm2 hk2
      have hT9 : IsTup s2.heap t #[.int bc tc, .int bm tm, .int bk tq, .ref lo] := ⟨_, hk2 _ _ (NN2 _ (.tail _ (.tail _ (.tail _ (.tail _ (.tail _ (.tail _ (.head _)))))))).1, rfl, _, rfl⟩
      k_steps
      refine stop_of ⟨rfl, ⟨_, _, rfl, fun _ _ e => e⟩⟩
    · intro C c t9 s2 m2 E2 hC hc0 hc3 hns hm2 hk2
      k_steps
      refine stop_of ⟨.int _ _, ⟨_, _, rfl, fun _ _ e => e⟩⟩
    · intro W wv nw h9 tk9 F9 N9 hW9 hI9
      clear FF2 NN2 hR2
      k_steps
      refine stop_of ?_
      rename Fr _ _ _ _ => FF0
      (with_reducible refine' for_core FF0 ?fh2 ?fs2 ?fE2)
      (case fs2 => intro _; with_unfolding_all rfl)
      (case fE2 => passes_own)
      k_steps
      rename News g' _ _ _ => NE
      rename Fr g' _ _ _ => FE
      rename IntsAre _ (List.drop _ _) => hI8
      rename Addr => D2
      rename List Value => ws
      obtain ⟨mm9, N3, hws, F3, q3, q4, hD2W, hD2D⟩ : ∃ (mm9 : Str → Option Value), News g' L' _ ((D2, listOf ws.toArray 0) :: (W, listOf wv.toArray nw) :: (D, listOf vs'.toArray n') :: (x, instObj 184 dx) :: (dx, dictOf [⟨PyData.keyHash w.params (Str.ofString "_headers"), .str (Str.ofString "_headers") kt, .ref D⟩] 1) :: ((L' + 1, oB) :: (l1, listOf vs1.toArray n1) :: (l2, listOf vs2.toArray n2) :: (t, tupB bc bm bk tc tm tq lo nt) :: (lo, listOf lv.toArray nlo) :: rest)) ∧ IntsAre ws (ks2.drop bk.toNat) ∧ Fr g' L' _ mm9 ∧ mm9 (Str.ofString "table") = some (.ref x) ∧ mm9 (Str.ofString "wiped") = some (.ref W) ∧ @Ne Nat D2 W ∧ @Ne Nat D2 D := ⟨_, NE, hI8, FE, rfl, rfl, by omega, by omega⟩
      have hDW : D ≠ W := hW9 _ (.head _)
      have hxW : x ≠ W := hW9 _ (.tail _ (.head _))
      have hdW : dx ≠ W := hW9 _ (.tail _ (.tail _ (.head _)))
      have hDWn := neN hDW
      have hxWn := neN hxW
      have hdWn := neN hdW
      have hWB : ∀ p ∈ ((L' + 1, oB) :: (l1, listOf vs1.toArray n1) :: (l2, listOf vs2.toArray n2) :: (t, tupB bc bm bk tc tm tq lo nt) :: (lo, listOf lv.toArray nlo) :: rest), p.1 ≠ W := fun p hp => hW9 p (.tail _ (.tail _ (.tail _ hp)))
      have hws9 := hws.length
      rw [List.length_drop] at hws9
      refine loop_list (its := ws) (nl := 0) rfl F3 (news_sub N3 (news' := (D, listOf vs'.toArray n') :: (x, instObj 184 dx) :: (dx, dictOf [⟨PyData.keyHash w.params (Str.ofString "_headers"), .str (Str.ofString "_headers") kt, .ref D⟩] 1) :: (W, listOf wv.toArray nw) :: (D2, listOf ws.toArray 0) :: ([] ++ ((L' + 1, oB) :: (l1, listOf vs1.toArray n1) :: (l2, listOf vs2.toArray n2) :: (t, tupB bc bm bk tc tm tq lo nt) :: (lo, listOf lv.toArray nlo) :: rest))) (fun p hp => by simp only [List.mem_cons, List.nil_append] at hp ⊢; rcases hp with h | h | h | h | h | h | h <;> simp [h])) (Car2 w.params D x dx W D2 kt ks1 (ks2.drop bk.toNat) ls bm ws ((L' + 1, oB) :: (l1, listOf vs1.toArray n1) :: (l2, listOf vs2.toArray n2) :: (t, tupB bc bm bk tc tm tq lo nt) :: (lo, listOf lv.toArray nlo) :: rest)) ?_ ?_ ?_ ?_
      · exact ⟨vs', n', wv, nw, [], rfl, q3, q4, hrow', hI9, List.length_filter_le _ _, by omega, fun _ hp => nomatch hp⟩
      · rintro i m' nx ⟨vs', n', wv', nw', add, rfl, _⟩
        simp
      · rintro i v m₂ nx h4 tk4 I oI hv ⟨vs', n', wv', nw', add, rfl, m3, m4, hrow', hiw, hlw, hlv, hadd⟩ hnI F4 N4 hoI
        obtain ⟨k, tk9, rfl, hk⟩ := ints_get hws hv
        have hkd := hk2 k (List.mem_of_mem_drop (List.mem_of_getElem? hk))
        have hii := (List.getElem?_eq_some_iff.mp hk).1
        rw [List.length_drop] at hii
        have F4a := fr_known3 F4 m3 m4 m3
        have N4a := news_sub N4 (news' := (D, listOf vs'.toArray n') :: (x, instObj 184 dx) :: (dx, dictOf [⟨PyData.keyHash w.params (Str.ofString "_headers"), .str (Str.ofString "_headers") kt, .ref D⟩] 1) :: (W, listOf wv'.toArray nw') :: (I, oI) :: (D2, listOf ws.toArray 0) :: (add ++ ((L' + 1, oB) :: (l1, listOf vs1.toArray n1) :: (l2, listOf vs2.toArray n2) :: (t, tupB bc bm bk tc tm tq lo nt) :: (lo, listOf lv.toArray nlo) :: rest))) (fun p hp => by simp only [List.mem_cons, List.mem_append] at hp ⊢; rcases hp with h | h | h | h | h | h | h | h <;> simp [h])
        have hDI : D ≠ I := hnI (D, listOf vs'.toArray n') (.head _)
        have hWI : W ≠ I := hnI (W, listOf wv'.toArray nw') (.tail _ (.tail _ (.tail _ (.head _))))
        have hRW : ∀ p ∈ (I, oI) :: (D2, listOf ws.toArray 0) :: (add ++ ((L' + 1, oB) :: (l1, listOf vs1.toArray n1) :: (l2, listOf vs2.toArray n2) :: (t, tupB bc bm bk tc tm tq lo nt) :: (lo, listOf lv.toArray nlo) :: rest)), p.1 ≠ W := List.forall_mem_cons.mpr ⟨hWI.symm, List.forall_mem_cons.mpr ⟨hD2W, fun p hp => (List.mem_append.mp hp).elim (fun q => (hadd p q).1) (hWB p)⟩⟩
        have hRD : ∀ p ∈ (I, oI) :: (D2, listOf ws.toArray 0) :: (add ++ ((L' + 1, oB) :: (l1, listOf vs1.toArray n1) :: (l2, listOf vs2.toArray n2) :: (t, tupB bc bm bk tc tm tq lo nt) :: (lo, listOf lv.toArray nlo) :: rest)), p.1 ≠ D := List.forall_mem_cons.mpr ⟨hDI.symm, List.forall_mem_cons.mpr ⟨hD2D, fun p hp => (List.mem_append.mp hp).elim (fun q => (hadd p q).2) (hbD p)⟩⟩
        have hWD := hDW.symm
        clear F4 N4 F3 N3 NE FE hret
        refine wpAny_assign_Name ?_
        k_steps
        · rename (List.any _ _ = true) => hin
          rename News g' _ _ _ => NE
          rename Fr g' _ _ _ => FE
          rename RowTo _ _ _ _ _ => R9
          obtain ⟨vs9, n9, add9, wv9, nw9, mm, NE2, R92, A92, off9, FE2, q1, q2, hiw9, hlw9⟩ : ∃ (vs9 : List Value) (n9 : Nat) (add9 : List (Addr × Obj)) (wv9 : List Value) (nw9 : Nat) (mm : Str → Option Value), News g' L' _ ((D, listOf vs9.toArray n9) :: (x, instObj 184 dx) :: (dx, dictOf [⟨PyData.keyHash w.params (Str.ofString "_headers"), .str (Str.ofString "_headers") kt, .ref D⟩] 1) :: (add9 ++ ((W, listOf wv9.toArray nw9) :: (I, oI) :: (D2, listOf ws.toArray 0) :: (add ++ ((L' + 1, oB) :: (l1, listOf vs1.toArray n1) :: (l2, listOf vs2.toArray n2) :: (t, tupB bc bm bk tc tm tq lo nt) :: (lo, listOf lv.toArray nlo) :: rest))))) ∧ RowTo add9 vs' vs9 ((List.take i (List.drop bk.toNat ks2)).foldl carStep (delAll ks1 ls, wipedOf bm)).1 (carStep ((List.take i (List.drop bk.toNat ks2)).foldl carStep (delAll ks1 ls, wipedOf bm)) k).1 ∧ (∀ p ∈ add9, ∃ ty tz n, p.2 = tupO k ty tz n) ∧ (∀ p ∈ add9 ++ ((W, listOf wv9.toArray nw9) :: (I, oI) :: (D2, listOf ws.toArray 0) :: (add ++ ((L' + 1, oB) :: (l1, listOf vs1.toArray n1) :: (l2, listOf vs2.toArray n2) :: (t, tupB bc bm bk tc tm tq lo nt) :: (lo, listOf lv.toArray nlo) :: rest))), p.1 ≠ D) ∧ Fr g' L' _ mm ∧ mm (Str.ofString "table") = some (.ref x) ∧ mm (Str.ofString "wiped") = some (.ref W) ∧ IntsAre wv9 (carStep ((List.take i (List.drop bk.toNat ks2)).foldl carStep (delAll ks1 ls, wipedOf bm)) k).2 ∧ (carStep ((List.take i (List.drop bk.toNat ks2)).foldl carStep (delAll ks1 ls, wipedOf bm)) k).2.length ≤ 3 :=
            ⟨_, _, _, _, _, _, NE, by rw [car_in hin]; exact R9, by assumption, by assumption, FE, rfl, rfl, by rw [car_in hin]; assumption, by rw [car_in hin]; (first | assumption | (simp only [List.length_erase]; split <;> omega))⟩
          have hl9 := (R92 g' (add9 ++ add) (fun p hp => List.mem_append.mpr (.inl hp)) (hrow'.at X' (fun p hp => List.mem_append.mpr (.inr hp)))).length
          have hl8 := (hrow'.at X' (nX := add) (fun p hp => hp)).length
          have hl7 := car_len ((List.take i (List.drop bk.toNat ks2)).foldl carStep (delAll ks1 ls, wipedOf bm)) k
          refine TurnEnd.next FE2 NE2 (nx := (D, listOf vs9.toArray n9) :: (x, instObj 184 dx) :: (dx, dictOf [⟨PyData.keyHash w.params (Str.ofString "_headers"), .str (Str.ofString "_headers") kt, .ref D⟩] 1) :: (W, listOf wv9.toArray nw9) :: (D2, listOf ws.toArray 0) :: ((add9 ++ add) ++ ((L' + 1, oB) :: (l1, listOf vs1.toArray n1) :: (l2, listOf vs2.toArray n2) :: (t, tupB bc bm bk tc tm tq lo nt) :: (lo, listOf lv.toArray nlo) :: rest))) ?_ ?_ ?_
          · intro p hp
            simp only [List.mem_cons, List.mem_append] at hp ⊢
            rcases hp with h | h | h | h | h | h | (h | h) | h | h | h | h | h | h <;> simp [h]
          · intro p hp
            rcases List.mem_cons.mp hp with rfl | hp
            · exact hDI
            rcases List.mem_cons.mp hp with rfl | hp
            · exact hnI _ (.tail _ (.head _))
            rcases List.mem_cons.mp hp with rfl | hp
            · exact hnI _ (.tail _ (.tail _ (.head _)))
            rcases List.mem_cons.mp hp with rfl | hp
            · exact hWI
            rcases List.mem_cons.mp hp with rfl | hp
            · exact hnI _ (.tail _ (.tail _ (.tail _ (.tail _ (.head _)))))
            rcases List.mem_append.mp hp with hp | hp
            · rcases List.mem_append.mp hp with hp | hp
              · exact tup_ne (a := p.1) (o := p.2) NE2 (by simp [hp]) (by simp) (A92 p hp) hoI
              · exact hnI p (.tail _ (.tail _ (.tail _ (.tail _ (.tail _ (List.mem_append.mpr (.inl hp)))))))
            · exact hnI p (.tail _ (.tail _ (.tail _ (.tail _ (.tail _ (List.mem_append.mpr (.inr hp)))))))
          · refine ⟨vs9, n9, wv9, nw9, add9 ++ add, rfl, q1, q2, ?_, ?_, ?_, by omega, ?_⟩
            · rw [car_next hk]; exact hrow'.to R92
            · rw [car_next hk]; exact hiw9
            · rw [car_next hk]; exact hlw9
            · intro p hp
              rcases List.mem_append.mp hp with hp | hp
              · exact ⟨tup_ne (a := p.1) (o := p.2) (o' := PySem.W.listOf wv9.toArray nw9) NE2 (by simp [hp]) (by simp) (A92 p hp) (by simp [PySem.W.listOf]), off9 p (List.mem_append.mpr (.inl hp))⟩
              · exact hadd p hp

        · rename (List.any _ _ = false) => hin
          rename News g' _ _ _ => NE
          rename Fr g' _ _ _ => FE
          rename RowTo _ _ _ _ _ => R9
          obtain ⟨vs9, n9, add9, wv9, nw9, mm, NE2, R92, A92, off9, FE2, q1, q2, hiw9, hlw9⟩ : ∃ (vs9 : List Value) (n9 : Nat) (add9 : List (Addr × Obj)) (wv9 : List Value) (nw9 : Nat) (mm : Str → Option Value), News g' L' _ ((D, listOf vs9.toArray n9) :: (x, instObj 184 dx) :: (dx, dictOf [⟨PyData.keyHash w.params (Str.ofString "_headers"), .str (Str.ofString "_headers") kt, .ref D⟩] 1) :: (add9 ++ ((W, listOf wv9.toArray nw9) :: (I, oI) :: (D2, listOf ws.toArray 0) :: (add ++ ((L' + 1, oB) :: (l1, listOf vs1.toArray n1) :: (l2, listOf vs2.toArray n2) :: (t, tupB bc bm bk tc tm tq lo nt) :: (lo, listOf lv.toArray nlo) :: rest))))) ∧ RowTo add9 vs' vs9 ((List.take i (List.drop bk.toNat ks2)).foldl carStep (delAll ks1 ls, wipedOf bm)).1 (carStep ((List.take i (List.drop bk.toNat ks2)).foldl carStep (delAll ks1 ls, wipedOf bm)) k).1 ∧ (∀ p ∈ add9, ∃ ty tz n, p.2 = tupO k ty tz n) ∧ (∀ p ∈ add9 ++ ((W, listOf wv9.toArray nw9) :: (I, oI) :: (D2, listOf ws.toArray 0) :: (add ++ ((L' + 1, oB) :: (l1, listOf vs1.toArray n1) :: (l2, listOf vs2.toArray n2) :: (t, tupB bc bm bk tc tm tq lo nt) :: (lo, listOf lv.toArray nlo) :: rest))), p.1 ≠ D) ∧ Fr g' L' _ mm ∧ mm (Str.ofString "table") = some (.ref x) ∧ mm (Str.ofString "wiped") = some (.ref W) ∧ IntsAre wv9 (carStep ((List.take i (List.drop bk.toNat ks2)).foldl carStep (delAll ks1 ls, wipedOf bm)) k).2 ∧ (carStep ((List.take i (List.drop bk.toNat ks2)).foldl carStep (delAll ks1 ls, wipedOf bm)) k).2.length ≤ 3 :=
            ⟨_, _, _, _, _, _, NE, by rw [car_out hin]; exact R9, by assumption, by assumption, FE, rfl, rfl, by rw [car_out hin]; assumption, by rw [car_out hin]; (first | assumption | (simp only [List.length_erase]; split <;> omega))⟩
          have hl9 := (R92 g' (add9 ++ add) (fun p hp => List.mem_append.mpr (.inl hp)) (hrow'.at X' (fun p hp => List.mem_append.mpr (.inr hp)))).length
          have hl8 := (hrow'.at X' (nX := add) (fun p hp => hp)).length
          have hl7 := car_len ((List.take i (List.drop bk.toNat ks2)).foldl carStep (delAll ks1 ls, wipedOf bm)) k
          refine TurnEnd.next FE2 NE2 (nx := (D, listOf vs9.toArray n9) :: (x, instObj 184 dx) :: (dx, dictOf [⟨PyData.keyHash w.params (Str.ofString "_headers"), .str (Str.ofString "_headers") kt, .ref D⟩] 1) :: (W, listOf wv9.toArray nw9) :: (D2, listOf ws.toArray 0) :: ((add9 ++ add) ++ ((L' + 1, oB) :: (l1, listOf vs1.toArray n1) :: (l2, listOf vs2.toArray n2) :: (t, tupB bc bm bk tc tm tq lo nt) :: (lo, listOf lv.toArray nlo) :: rest))) ?_ ?_ ?_
          · intro p hp
            simp only [List.mem_cons, List.mem_append] at hp ⊢
            rcases hp with h | h | h | h | h | h | (h | h) | h | h | h | h | h | h <;> simp [h]
          · intro p hp
            rcases List.mem_cons.mp hp with rfl | hp
            · exact hDI
            rcases List.mem_cons.mp hp with rfl | hp
            · exact hnI _ (.tail _ (.head _))
            rcases List.mem_cons.mp hp with rfl | hp
            · exact hnI _ (.tail _ (.tail _ (.head _)))
            rcases List.mem_cons.mp hp with rfl | hp
            · exact hWI
            rcases List.mem_cons.mp hp with rfl | hp
            · exact hnI _ (.tail _ (.tail _ (.tail _ (.tail _ (.head _)))))
            rcases List.mem_append.mp hp with hp | hp
            · rcases List.mem_append.mp hp with hp | hp
              · exact tup_ne (a := p.1) (o := p.2) NE2 (by simp [hp]) (by simp) (A92 p hp) hoI
              · exact hnI p (.tail _ (.tail _ (.tail _ (.tail _ (.tail _ (List.mem_append.mpr (.inl hp)))))))
            · exact hnI p (.tail _ (.tail _ (.tail _ (.tail _ (.tail _ (List.mem_append.mpr (.inr hp)))))))
          · refine ⟨vs9, n9, wv9, nw9, add9 ++ add, rfl, q1, q2, ?_, ?_, ?_, by omega, ?_⟩
            · rw [car_next hk]; exact hrow'.to R92
            · rw [car_next hk]; exact hiw9
            · rw [car_next hk]; exact hlw9
            · intro p hp
              rcases List.mem_append.mp hp with hp | hp
              · exact ⟨tup_ne (a := p.1) (o := p.2) (o' := PySem.W.listOf wv9.toArray nw9) NE2 (by simp [hp]) (by simp) (A92 p hp) (by simp [PySem.W.listOf]), off9 p (List.mem_append.mpr (.inl hp))⟩
              · exact hadd p hp

      · rintro h4 tk4 m₂ nx F4 N4 ⟨vs', n', wv', nw', add, rfl, m3, m4, hrow', hiw, hlw, hlv, hadd⟩
        rw [hws.length, List.take_length] at hrow'
        have F4a := fr_known F4 m3
        clear F4 F3 N3 NE FE
        (try dsimp only)
        k_steps
        rename News h₀ L _ _ => NZ
        exact hret _ vs' 0 add _ _ (by assumption) (news_sub NZ (fun p hp => by simp only [List.mem_cons, List.mem_append] at hp ⊢; rcases hp with h | h | h | h | h | h | h <;> simp [h])) hrow'
end Mine
namespace Mine

theorem pdk_lay (k : Int) : (pdk k).canLay0 = true := by
  have h1 : PyData.canLay0 (.str (nmk k)) = true := by
    unfold nmk; repeat' split
    all_goals decide +kernel
  have h2 : PyData.canLay0 (.str (vlk k)) = true := by
    unfold vlk; repeat' split
    all_goals decide +kernel
  simp only [pdk, PyData.canLay0, PyData.canLayAll0] at h1 h2 ⊢
  rw [h1, h2]; rfl
theorem row_lay : ∀ ks : List Int, PyData.canLayAll0 (ks.map pdk) = true
  | [] => rfl
  | k :: ks => by rw [List.map_cons, PyData.canLayAll0, pdk_lay, row_lay ks]; rfl
theorem pdk_depth (k : Int) : (pdk k).depth = 1 := by
  simp [pdk, PyData.depth, PyData.depthAll]
theorem row_depths : ∀ ks : List Int, PyData.depthAll (ks.map pdk) ≤ 1
  | [] => by simp [PyData.depthAll]
  | k :: ks => by rw [List.map_cons, PyData.depthAll, pdk_depth]; exact Nat.max_le.mpr ⟨Nat.le_refl _, row_depths ks⟩
theorem row_depth (ks : List Int) : (PyData.list (ks.map pdk)).depth ≤ 2 := by
  rw [PyData.depth]; have := row_depths ks; omega
theorem pdk_eqv {k j : Int} (hk : Kd k) (hj : Kd j) : PyData.eqv (pdk k) (pdk j) = decide (k = j) := by
  rcases hk with rfl | rfl | rfl | rfl | rfl <;> rcases hj with rfl | rfl | rfl | rfl | rfl <;> decide +kernel
theorem rows_eqv : ∀ (ks js : List Int), (∀ k ∈ ks, Kd k) → (∀ k ∈ js, Kd k) → PyData.eqvAll (ks.map pdk) (js.map pdk) = decide (ks = js)
  | [], [], _, _ => rfl
  | [], _ :: _, _, _ => rfl
  | _ :: _, [], _, _ => rfl
  | k :: ks, j :: js, h1, h2 => by
    rw [List.map_cons, List.map_cons, PyData.eqvAll, pdk_eqv (h1 _ (.head _)) (h2 _ (.head _)), rows_eqv ks js (fun x hx => h1 x (.tail _ hx)) (fun x hx => h2 x (.tail _ hx))]
    by_cases e : k = j
    · subst e; simp
    · simp [e]
section
variable {prog : Program} {w : World} {A : Around} {E : Value → Shared → Prop} {s : Shared} {h₀ : Heap} {L : Addr} {m : Str → Option Value} {news : List (Addr × Obj)}
theorem reads_row {a : Addr} {vs : List Value} {n : Nat} {ks : List Int} (F : Fr h₀ L s.heap m) (N : News h₀ L s.heap news) (ha : (a, listOf vs.toArray n) ∈ news) (r : RowIn h₀ news vs ks) : Reads s.heap (.ref a) (.list (ks.map pdk)) [a] :=
  Reads.list (as := []) (N _ ha).1 rfl rfl (r.reads F N)
theorem row_shaped (ks : List Int) : SeqAt.shaped (.list (ks.map pdk)) = true := by
  have h1 : PyData.canLay0 (.list (ks.map pdk)) = true := by rw [PyData.canLay0]; exact row_lay ks
  unfold SeqAt.shaped
  rw [h1, Bool.true_and]
  exact decide_eq_true (Nat.le_trans (row_depth ks) (by decide))
theorem rows_eq {a b : Addr} {vs ws : List Value} {na nb : Nat} {ks js : List Int} {Q : Value → Shared → Prop} (F : Fr h₀ L s.heap m) (N : News h₀ L s.heap news) (ha : (a, listOf vs.toArray na) ∈ news) (hb : (b, listOf ws.toArray nb) ∈ news) (ra : RowIn h₀ news vs ks) (rb : RowIn h₀ news ws js)
    (hk : ∀ k ∈ ks, Kd k) (hj : ∀ k ∈ js, Kd k) (hu : A.units + 64 < cLine) (h : Q (.bool (decide (ks = js))) s) : wpAny (model prog w) A (compareOp .Eq (.ref a) (.ref b)) Q E s :=
  eq_dataH (reads_row F N ha ra) (reads_row F N hb rb) (row_shaped _) (row_shaped _) hu (by rw [PyData.eqv, rows_eqv ks js hk hj]; exact h)
theorem rows_ne {a b : Addr} {vs ws : List Value} {na nb : Nat} {ks js : List Int} {Q : Value → Shared → Prop} (F : Fr h₀ L s.heap m) (N : News h₀ L s.heap news) (ha : (a, listOf vs.toArray na) ∈ news) (hb : (b, listOf ws.toArray nb) ∈ news) (ra : RowIn h₀ news vs ks) (rb : RowIn h₀ news ws js)
    (hk : ∀ k ∈ ks, Kd k) (hj : ∀ k ∈ js, Kd k) (hu : A.units + 64 < cLine) (h : Q (.bool (!decide (ks = js))) s) : wpAny (model prog w) A (compareOp .NotEq (.ref a) (.ref b)) Q E s :=
  ne_dataH (reads_row F N ha ra) (reads_row F N hb rb) (row_shaped _) (row_shaped _) hu (by rw [PyData.eqv, rows_eqv ks js hk hj]; exact h)
/-- v is a list of the ledger that holds the row ks -/
def StIn (pp : Params) (add : List (Addr × Obj)) (v : Value) (ks : List Int) : Prop := ∃ a vs n, v = .ref a ∧ (a, listOf vs.toArray n) ∈ add ∧ RowK pp add vs ks
theorem RowK.mono {pp : Params} {add add' : List (Addr × Obj)} {vs : List Value} {ks : List Int} (r : RowK pp add vs ks) (hs : ∀ p ∈ add, p ∈ add') : RowK pp add' vs ks := fun g nX X h => r g nX X fun p hp => h p (hs p hp)
theorem StIn.mono {pp : Params} {add add' : List (Addr × Obj)} {v : Value} {ks : List Int} (r : StIn pp add v ks) (hs : ∀ p ∈ add, p ∈ add') : StIn pp add' v ks := by
  obtain ⟨a, vs, n, e, hm, hr⟩ := r
  exact ⟨a, vs, n, e, hs _ hm, hr.mono hs⟩
theorem StIn.reads {pp : Params} {add : List (Addr × Obj)} {v : Value} {ks : List Int} (r : StIn pp add v ks) (F : Fr h₀ L s.heap m) (N : News h₀ L s.heap news) (X : (hd.heap_39 pp).In h₀) (hs : ∀ p ∈ add, p ∈ news) : ∃ a, Reads s.heap v (.list (ks.map pdk)) [a] := by
  obtain ⟨a, vs, n, rfl, hm, hr⟩ := r
  exact ⟨a, reads_row F N (hs _ hm) (hr _ _ X hs)⟩
theorem seen_reads {pp : Params} {add : List (Addr × Obj)} (F : Fr h₀ L s.heap m) (N : News h₀ L s.heap news) (X : (hd.heap_39 pp).In h₀) (hs : ∀ p ∈ add, p ∈ news) : ∀ svs : List Value, (∀ v ∈ svs, ∃ ks, StIn pp add v ks) → ∃ xs as, ReadsAll s.heap svs xs as ∧ PyData.canLayAll0 xs = true
  | [], _ => ⟨[], [], .nil, rfl⟩
  | v :: svs, h => by
    obtain ⟨xs, as, r, hl⟩ := seen_reads F N X hs svs fun v hv => h v (.tail _ hv)
    obtain ⟨ks, st⟩ := h v (.head _)
    obtain ⟨a, ra⟩ := st.reads F N X hs
    refine ⟨.list (ks.map pdk) :: xs, _, .cons ra r, ?_⟩
    rw [PyData.canLayAll0, PyData.canLay0, row_lay, hl]; rfl
theorem notin_seen {pp : Params} {add : List (Addr × Obj)} {S : Addr} {v : Value} {svs : List Value} {ns : Nat} {ks : List Int} {Q : Value → Shared → Prop} (F : Fr h₀ L s.heap m) (N : News h₀ L s.heap news) (X : (hd.heap_39 pp).In h₀) (hs : ∀ p ∈ add, p ∈ news) (hS : (S, listOf svs.toArray ns) ∈ news)
    (hv : StIn pp add v ks) (hsv : ∀ v ∈ svs, ∃ ks, StIn pp add v ks) (hu : A.units + 64 < cLine) (h : ∀ b, Q (.bool b) s) : wpAny (model prog w) A (compareOp .NotIn v (.ref S)) Q E s := by
  obtain ⟨xs, as, r, hl⟩ := seen_reads F N X hs svs hsv
  obtain ⟨a, ra⟩ := hv.reads F N X hs
  refine SeqAt.notIn_list_reads (xs := xs) (Reads.list (N _ hS).1 rfl rfl r) ra hl (by rw [PyData.canLay0]; exact row_lay ks) ?_ (h _)
  have := row_depth ks
  have := Nat.min_le_right (PyData.depthAll xs) (PyData.list (ks.map pdk)).depth
  omega
end
section
variable {prog : Program} {w : World} {A : Around} {E : Value → Shared → Prop} {s : Shared} {h₀ : Heap} {L : Addr} {m : Str → Option Value} {env : Env}
/-- y = [KINDS[x] for x in a list of kinds] -/
theorem kinds_asg {elt iter : Expr} {x y : Str} {px py : Pos} {scope : Scope} {cl : List (Str × Addr)} {pos spos : Pos} {Q : Flow → Shared → Prop} (zF₀ : Fr h₀ L s.heap m)
    (hsw : swapsWith (.ListComp elt [⟨.Name x px, iter, [], 0⟩] scope pos) (some (.Name y py)) spos.line env = pure true) (hL : env.locals = L)
    (hh : A.handled = none) (hclos : closureFor scope env = pure cl) (hcell : ∀ y ∈ scope.names, y.2 ≠ .cell) (hkind : scope.kind = .function)
    (hnames : ∀ y ∈ scope.names, y.2 = .local → scope.names.lookup y.1 = some .local) (hx : scope.names.lookup x = some .local)
    (hy : env.kindOf y = some .local) (hp : (env.scope.kind == .class || (env.scope.kind == .module && env.locals != env.globals)) = false)
    (h : wpAny (model prog w) A (eval iter env) (fun xv s₁ => Stop (∃ news : List (Addr × Obj), ∃ (ax : Addr) (vs : List Value) (ks : List Int), xv = .ref ax ∧ s₁.heap.IsList ax vs.toArray ∧ IntsAre vs ks ∧ ks.length ≤ 1000 ∧ (∀ k ∈ ks, Kd k) ∧ Fr h₀ L s₁.heap m ∧ News h₀ L s₁.heap news ∧
      (∀ C k t s₂ m₂ E', s₁.heap.objs.size ≤ C → Kd k → s₂.heap.Ns (compEnvC scope cl C env).locals m₂ → m₂ x = some (.int k t) → (∀ b o, s₁.heap.get? b = some o → s₂.heap.get? b = some o) →
        wpAny (model prog w) A (eval elt (compEnvC scope cl C env)) (fun y s₃ => Stop ((∃ a ty tz, y = .ref a ∧ ∀ g, (hd.heap_39 w.params).In g → g.get? a = some (tupO k ty tz 0)) ∧ Keeps s₂ s₃)) E' s₂) ∧
      (∀ D (ys : List Value) n h' tk, Fr h₀ L h' (fun z => if z = y then some (.ref D) else m z) → News h₀ L h' ((D, listOf ys.toArray n) :: news) → (∀ p ∈ news, p.1 ≠ D) → RowK w.params [] ys ks → Q .next { s₁ with heap := h', toks := tk }))) E s)
    (hs : ∀ x, foldedSetIterable iter env x = pure x) :
    wpAny (model prog w) A (exec (.Assign [.Name y py] (.ListComp elt [⟨.Name x px, iter, [], 0⟩] scope pos) spos) env) Q E s := by
  subst hL
  refine wpAny_Assign_ListComp_free (fun _ => true) (fun v y => ∃ k t, v = .int k t ∧ ∃ a ty tz, y = .ref a ∧ ∀ g, (hd.heap_39 w.params).In g → g.get? a = some (tupO k ty tz 0)) hsw hclos hcell hkind hnames hx hy hp (wpAny_mono h (fun xv s₁ h₁ => ?_) fun _ _ e => e) hs
  obtain ⟨news, ax, vs, ks, rfl, hl, hi, hz, hkd, F, N, helt, hQ⟩ := h₁
  have hmem : ∀ {vs : List Value} {ks : List Int}, IntsAre vs ks → ∀ v ∈ vs, ∃ k ∈ ks, ∃ t, v = .int k t := by
    intro vs ks hi
    induction hi with
    | nil => intro v hv; cases hv
    | cons n t _ ih =>
      intro v hv
      rcases List.mem_cons.mp hv with rfl | hv
      · exact ⟨_, .head _, _, rfl⟩
      · obtain ⟨k, hk, t, e⟩ := ih v hv
        exact ⟨k, .tail _ hk, t, e⟩
  have hlt : ax < s₁.heap.objs.size := by obtain ⟨_, e, _⟩ := hl; exact Heap.lt_size e
  have up : ∀ (s₃ : Shared), (∀ b o, b ∉ [s₁.heap.objs.size] → (s₁.heap.push { cls := .type "list_iterator", data := .fields #[.ref ax, .int 0 0] }).get? b = some o → s₃.heap.get? b = some o) → ∀ b o, s₁.heap.get? b = some o → s₃.heap.get? b = some o :=
    fun s₃ hk b o e => hk b o (fun hm => by rcases List.mem_cons.mp hm with rfl | hm; exact Nat.lt_irrefl _ (Heap.lt_size e); cases hm) (Heap.get?_push_of_some _ e)
  refine wpAny_pyIter_list hl ⟨s₁.heap.objs.size, [s₁.heap.objs.size, ax], [s₁.heap.objs.size], vs.toArray.size, _, _, m, rfl, Walks.list hh _ _ (Nat.ne_of_lt hlt) vs.toArray, (by rw [List.size_toArray, hi.length, sizeLine_eq]; omega), ⟨⟨_, Heap.get?_push_size _ rfl, rfl, rfl⟩, hl.push _⟩, ?_, ?_, F.ns.push _, ⟨?_, ?_⟩, ?_⟩
  · intro b hb
    show b < (s₁.heap.push _).objs.size
    rw [Heap.size_push]
    rcases List.mem_cons.mp hb with rfl | hb
    · exact Nat.lt_succ_self _
    · rcases List.mem_cons.mp hb with rfl | hb
      · exact Nat.lt_succ_of_lt hlt
      · cases hb
  · intro hm
    rcases List.mem_cons.mp hm with e | hm
    · exact Nat.lt_irrefl _ (e ▸ F.ns.lt)
    · cases hm
  · intro C i v s₃ m₃ E' hC hP hn hm hk _
    exact wpAny_pure ⟨rfl, _, _, rfl, fun _ _ e => e⟩
  · intro C i v s₃ m₃ E' hC hP _ hn hm hk _
    obtain ⟨k, hkk, t, rfl⟩ := hmem hi v (by simpa using Array.mem_of_getElem? hP)
    exact wpAny_mono (helt C k t s₃ m₃ E' (Nat.le_of_succ_le (by simpa [Heap.size_push] using hC)) (hkd k hkk) hn hm (up s₃ hk)) (fun y s₃ h₃ => ⟨by obtain ⟨⟨a, ty, tz, e, hg⟩, _⟩ := h₃; exact ⟨k, t, rfl, a, ty, tz, e, hg⟩, h₃.2⟩) fun _ _ e => e
  · intro D h' tk ys vs' hnew hlD hplD hlen hP hF hn'' hk
    have e : vs' = vs := by simpa using list_of_places hlen hP
    subst e
    have keep : ∀ b o, b ≠ env.locals → s₁.heap.get? b = some o → h'.get? b = some o := fun b o hb e =>
      hk b o hb (fun hm => by rcases List.mem_cons.mp hm with rfl | hm; exact Nat.lt_irrefl _ (Heap.lt_size e); cases hm) (Heap.get?_push_of_some _ e)
    have hD : s₁.heap.get? D = none := by
      cases e : s₁.heap.get? D with
      | none => rfl
      | some o' => rw [Heap.get?_push_of_some _ e] at hnew; cases hnew
    have hh0 : h₀.get? D = none := by
      cases e : h₀.get? D with
      | none => rfl
      | some o' => rw [F.keep _ _ e] at hD; cases hD
    have F' : Fr h₀ env.locals h' (fun z => if z = y then some (.ref D) else m z) := ⟨hn'', fun b o e => keep b o (Nat.ne_of_lt (Nat.lt_of_lt_of_le (Heap.lt_size e) F.above)) (F.keep b o e), F.above⟩
    have N' : News h₀ env.locals h' news := fun p hp => ⟨keep _ _ (N p hp).2.1 (N p hp).1, (N p hp).2⟩
    obtain ⟨n, N2⟩ := made_enters (D := D) (items := ys) ⟨hplD, fun p hp e => by rw [← e, (N p hp).1] at hD; cases hD⟩ F' N' hh0
    refine hQ D ys.toList n h' tk F' (by rw [Array.toArray_toList]; exact N2) (fun p hp => ?_) ?_
    · rintro rfl
      rw [(N p hp).1] at hD; cases hD
    · have e : vs'.filter (fun _ => true) = vs' := List.filter_eq_self.mpr fun _ _ => rfl
      rw [e] at hF
      intro g nX X' _
      generalize ys.toList = yl at hF
      clear hl hz hkd N' hmem helt hQ hlen hP N2
      induction hF generalizing ks with
      | nil => cases hi; exact .nil
      | cons r _ ih =>
        cases hi with
        | cons n t hi =>
          obtain ⟨k, t', e, a, ty, tz, e2, hg⟩ := r
          cases e
          exact .cons ⟨a, ty, tz, 0, e2, .inr (hg _ X')⟩ (ih _ hi (List.filter_eq_self.mpr fun _ _ => rfl))
theorem fr_cons {h : Heap} {m' : Str → Option Value} {x : Str} {v : Value} (F : Fr h₀ L h m') (q : m' = m) (e : m x = some v) : Fr h₀ L h (fun y => if y = x then some v else m' y) ∧ (fun y => if y = x then some v else m' y) = m := by
  have q2 : (fun y => if y = x then some v else m' y) = m := by
    funext y
    subst q
    by_cases h : y = x
    · subst h; simp only [if_true, e]
    · simp only [if_neg h]
  exact ⟨by rw [q2, ← q]; exact F, q2⟩
end
end Mine
namespace Mine

def dstep (r : List Int) (d : Nat) : List Int := if d < 3 then (r.filter fun j => ofk j != ofk (d : Int)) ++ [(d : Int)] else if d < 6 then r ++ [(d : Int) - 3] else r.filter fun j => ofk j != (d : Int) - 6
inductive Reach (ks : List Int) : Nat → List Int → Prop
  | zero : Reach ks 0 ks
  | step {n : Nat} {r : List Int} (d : Nat) : d < 8 → Reach ks n r → Reach ks (n + 1) (dstep r d)
theorem dstep_set {r : List Int} {d : Nat} (h : (d : Int) < 3) : dstep r d = (r.filter fun j => ofk j != ofk (d : Int)) ++ [(d : Int)] := if_pos (by omega)
theorem dstep_add {r : List Int} {d : Nat} (h : ¬ (d : Int) < 3) (h2 : (d : Int) < 6) : dstep r d = r ++ [(d : Int) - 3] := by
  rw [dstep, if_neg (by omega), if_pos (by omega)]
theorem dstep_del {r : List Int} {d : Nat} (h : ¬ (d : Int) < 3) (h2 : ¬ (d : Int) < 6) : dstep r d = r.filter fun j => ofk j != (d : Int) - 6 := by
  rw [dstep, if_neg (by omega), if_neg (by omega)]
theorem dstep_kd {r : List Int} {d : Nat} (hd : d < 8) (h : ∀ k ∈ r, Kd k) : ∀ k ∈ dstep r d, Kd k := by
  intro k hk
  by_cases h1 : (d : Int) < 3
  · rw [dstep_set h1] at hk
    rcases List.mem_append.mp hk with q | q
    · exact h k (List.mem_filter.mp q).1
    · rw [List.mem_singleton.mp q]; exact Kd.of (by omega) (by omega)
  · by_cases h2 : (d : Int) < 6
    · rw [dstep_add h1 h2] at hk
      rcases List.mem_append.mp hk with q | q
      · exact h k q
      · rw [List.mem_singleton.mp q]; exact Kd.of (by omega) (by omega)
    · rw [dstep_del h1 h2] at hk
      exact h k (List.mem_filter.mp hk).1
theorem dstep_len {r : List Int} {d : Nat} : (dstep r d).length ≤ r.length + 1 := by
  unfold dstep
  split
  · have := List.length_filter_le (fun j => ofk j != ofk (d : Int)) r
    simp only [List.length_append, List.length_singleton]; omega
  · split
    · simp
    · exact Nat.le_succ_of_le (List.length_filter_le _ _)
theorem Reach.kd {ks : List Int} {n : Nat} {r : List Int} (h : Reach ks n r) (hk : ∀ k ∈ ks, Kd k) : ∀ k ∈ r, Kd k := by
  induction h with
  | zero => exact hk
  | step d hd _ ih => exact dstep_kd hd ih
theorem Reach.len {ks : List Int} {n : Nat} {r : List Int} (h : Reach ks n r) : r.length ≤ ks.length + n := by
  induction h with
  | zero => exact Nat.le_refl _
  | step d hd _ ih => exact Nat.le_trans dstep_len (by omega)
theorem sub_turn {α : Type} {i a b c d e : α} {X Y Z : List α} : ∀ p ∈ i :: a :: b :: c :: d :: e :: ((X ++ Y) ++ Z), p ∈ a :: b :: c :: d :: e :: i :: (X ++ (Y ++ Z)) := by
  intro p hp
  rw [List.append_assoc] at hp
  simp only [List.mem_cons] at hp ⊢
  rcases hp with h | h | h | h | h | h | h <;> simp only [h, true_or, or_true]
theorem sub_told {α : Type} {i a b c d e n : α} {X Y : List α} : ∀ p ∈ a :: b :: c :: d :: e :: i :: ((n :: X) ++ Y), p ∈ n :: a :: b :: c :: d :: e :: i :: (X ++ Y) := by
  intro p hp
  rw [List.cons_append] at hp
  simp only [List.mem_cons] at hp ⊢
  rcases hp with h | h | h | h | h | h | h | h <;> simp only [h, true_or, or_true]
theorem sub_deed {α : Type} {i a b c d e : α} {X Y : List α} : ∀ p ∈ a :: b :: c :: d :: e :: i :: (X ++ Y), p ∈ a :: b :: c :: (X ++ (d :: e :: i :: Y)) := by
  intro p hp
  simp only [List.mem_cons, List.mem_append] at hp ⊢
  rcases hp with h | h | h | h | h | h | h | h <;> simp only [h, true_or, or_true]
theorem allLt_ne {d : Addr} : ∀ {l : List (Addr × Obj)}, AllLt d l → ∀ p ∈ l, p.1 ≠ d
  | [], _, _, h => nomatch h
  | q :: l, h, p, hp => by
    rcases List.mem_cons.mp hp with rfl | hp
    · exact Nat.ne_of_lt h.1
    · exact allLt_ne h.2 p hp
section
variable {prog : Program} {w : World} {A : Around} {E : Value → Shared → Prop} {s : Shared} {h₀ : Heap} {L : Addr} {m : Str → Option Value}
theorem setall_K {h : Heap} {g : Array GenState} {d : Drawn} {tk : Nat} {os : OsState} {news rest : List (Addr × Obj)} {R D : Addr} {rvs vs : List Value} {nr nd : Nat} {Q : Unit → Shared → Prop}
    (F : Fr h₀ L h m) (N : News h₀ L h news) (e : news = (R, listOf rvs.toArray nr) :: rest) (hoff : ∀ p ∈ rest, p.1 ≠ R) (hD : (D, listOf vs.toArray nd) ∈ rest) (hz1 : rvs.length ≤ 1000) (hz2 : vs.length ≤ 1000)
    (hq : ∀ h' n', Fr h₀ L h' m → News h₀ L h' ((R, listOf vs.toArray n') :: rest) → Q () ⟨h', g, d, tk, os⟩) :
    wpAny (model prog w) A (setItem (.ref R) (.ref h.objs.size) (.ref D)) Q E ⟨h.push { cls := .type "slice", data := .fields #[.none, .none, .none] }, g, d, tk, os⟩ := by
  subst e
  refine set_all (s := ⟨h.push { cls := .type "slice", data := .fields #[.none, .none, .none] }, g, d, tk, os⟩) (items := rvs.toArray) (new := vs.toArray) (nl := nr) (fun q => hoff _ hD q.symm) (Heap.get?_push_of_some _ (N _ (.head _)).1) ((N.isList (.tail _ hD)).push _) (Heap.IsSliceOf.new _ _ _ _) (by simpa using hz1) (by simpa using hz2) ?_
  intro h4 n4 hsb4 hg4
  have N3' := news_sub (N.push F { cls := .type "slice", data := .fields #[.none, .none, .none] }) (news' := (R, listOf rvs.toArray nr) :: rest) (fun q hq => .tail _ hq)
  exact hq _ _ (fr_upd (F.push _) N3' hsb4) (news_upd N3' hoff hsb4 hg4)
theorem pair0 {value slice : Expr} {a : Addr} {k i : Int} {ty tz u : Tok} {Q : Value → Shared → Prop} (hi : i = 0) (F : Fr h₀ L s.heap m) (X : (hd.heap_39 w.params).In h₀) (hg : ∀ g, (hd.heap_39 w.params).In g → g.get? a = some (tupO k ty tz 0)) (h : Q (.str (nmk k) ty) s)
    (hs : subscripted slice false (.ref a) (.int i u) = operate [.ref a, .int i u] (getItem (.ref a) (.int i u))) (ht : ∀ r, letTemporaryGo value (.ref a) r = pure ()) :
    wpAny (model prog w) A (subscriptTail value slice (.ref a) (.int i u)) Q E s := by
  subst hi
  exact item_tuple (j := 0) ⟨_, hg _ (X.keeps F.keep), rfl, _, rfl⟩ (by decide) (by decide) rfl rfl h hs ht
theorem pair1 {value slice : Expr} {a : Addr} {k i : Int} {ty tz u : Tok} {Q : Value → Shared → Prop} (hi : i = 1) (F : Fr h₀ L s.heap m) (X : (hd.heap_39 w.params).In h₀) (hg : ∀ g, (hd.heap_39 w.params).In g → g.get? a = some (tupO k ty tz 0)) (h : Q (.str (vlk k) tz) s)
    (hs : subscripted slice false (.ref a) (.int i u) = operate [.ref a, .int i u] (getItem (.ref a) (.int i u))) (ht : ∀ r, letTemporaryGo value (.ref a) r = pure ()) :
    wpAny (model prog w) A (subscriptTail value slice (.ref a) (.int i u)) Q E s := by
  subst hi
  exact item_tuple (j := 1) ⟨_, hg _ (X.keeps F.keep), rfl, _, rfl⟩ (by decide) (by decide) rfl rfl h hs ht
end
end Mine
namespace Mine
local macro_rules | `(tactic| k_all) => `(tactic| first | assumption | exact below_ne (by assumption) (by (first | omega | (dsimp only; omega))) (fun p hp => by simp [hp]))
local macro_rules | `(tactic| k_room) => `(tactic| ktr_room)
local macro_rules | `(tactic| walk_at "exec For") => `(tactic| (k_here; (with_reducible show wpAny _ _ (exec (Stmt.For (Expr.Name _ _) _ _ _ _) _) _ _ _); refine Stop.intro ?_))
local macro_rules | `(tactic| walk_at "exec For Name") => `(tactic| (k_here; (with_reducible show wpAny _ _ (exec (Stmt.For (Expr.Name _ _) _ _ _ _) _) _ _ _); refine Stop.intro ?_))
local macro_rules | `(tactic| walk_at "exec For Name Call") => `(tactic| (k_here; (with_reducible show wpAny _ _ (exec (Stmt.For (Expr.Name _ _) _ _ _ _) _) _ _ _); refine Stop.intro ?_))
local macro_rules | `(tactic| walk_at "exec For Name Name") => `(tactic| (k_here; (with_reducible show wpAny _ _ (exec (Stmt.For (Expr.Name _ _) _ _ _ _) _) _ _ _); refine Stop.intro ?_))
local macro_rules | `(tactic| walk_at "exec For Name Subscript") => `(tactic| (k_here; (with_reducible show wpAny _ _ (exec (Stmt.For (Expr.Name _ _) _ _ _ _) _) _ _ _); refine Stop.intro ?_))
local macro_rules | `(tactic| walk_at "exec For Name Call cons nil") => `(tactic| (k_here; (with_reducible show wpAny _ _ (exec (Stmt.For (Expr.Name _ _) _ _ _ _) _) _ _ _); refine Stop.intro ?_))
local macro_rules | `(tactic| walk_at "subscriptTail Name Name ref int") => `(tactic| (k_here; (with_reducible show wpAny _ _ (subscriptTail _ _ (Value.ref 194) _) _ _ _); k_dflt (refine' kinds_item ?k1 ?k2 ?k3 ?_ ?k4 ?k5; (case k1 => k_asm); (case k2 => k_asm); (case k3 => first | assumption | exact kd_mem (by assumption) (by assumption) | exact Kd.of (by omega) (by omega)); (case k4 => with_unfolding_all rfl); (case k5 => intro _; with_unfolding_all rfl); k_whole); intro a9 ty9 tz9 hg9))
local macro_rules | `(tactic| walk_at "subscriptTail Name Name ref int") => `(tactic| (k_here; (with_reducible show wpAny _ _ (subscriptTail _ _ (Value.ref 197) _) _ _ _); k_dflt (refine' other_item ?k1 ?k2 ?k3 ?k6 ?_ ?k4 ?k5; (case k1 => k_asm); (case k2 => k_asm); (case k3 => omega); (case k6 => omega); (case k4 => with_unfolding_all rfl); (case k5 => intro _; with_unfolding_all rfl); k_whole); intro t9))
local macro_rules | `(tactic| walk_at "subscriptTail Name BinOp ref int") => `(tactic| (k_here; (with_reducible show wpAny _ _ (subscriptTail _ _ (Value.ref 194) _) _ _ _); k_dflt (refine' kinds_item ?k1 ?k2 ?k3 ?_ ?k4 ?k5; (case k1 => k_asm); (case k2 => k_asm); (case k3 => first | assumption | exact kd_mem (by assumption) (by assumption) | exact Kd.of (by omega) (by omega)); (case k4 => with_unfolding_all rfl); (case k5 => intro _; with_unfolding_all rfl); k_whole); intro a9 ty9 tz9 hg9))
local macro_rules | `(tactic| walk_at "subscriptTail Name BinOp ref int") => `(tactic| (k_here; (with_reducible show wpAny _ _ (subscriptTail _ _ (Value.ref 197) _) _ _ _); k_dflt (refine' other_item ?k1 ?k2 ?k3 ?k6 ?_ ?k4 ?k5; (case k1 => k_asm); (case k2 => k_asm); (case k3 => omega); (case k6 => omega); (case k4 => with_unfolding_all rfl); (case k5 => intro _; with_unfolding_all rfl); k_whole); intro t9))
local macro_rules | `(tactic| walk_at "subscriptTail Name BinOp ref") => `(tactic| (k_here; (with_reducible show wpAny _ _ (subscriptTail _ _ (Value.ref 194) _) _ _ _); k_dflt (refine' kinds_item ?k1 ?k2 ?k3 ?_ ?k4 ?k5; (case k1 => k_asm); (case k2 => k_asm); (case k3 => first | assumption | exact kd_mem (by assumption) (by assumption) | exact Kd.of (by omega) (by omega)); (case k4 => with_unfolding_all rfl); (case k5 => intro _; with_unfolding_all rfl); k_whole); intro a9 ty9 tz9 hg9))
local macro_rules | `(tactic| walk_at "subscriptTail Name BinOp ref") => `(tactic| (k_here; (with_reducible show wpAny _ _ (subscriptTail _ _ (Value.ref 197) _) _ _ _); k_dflt (refine' other_item ?k1 ?k2 ?k3 ?k6 ?_ ?k4 ?k5; (case k1 => k_asm); (case k2 => k_asm); (case k3 => omega); (case k6 => omega); (case k4 => with_unfolding_all rfl); (case k5 => intro _; with_unfolding_all rfl); k_whole); intro t9))
local macro_rules | `(tactic| walk_at "subscriptTail Name BinOp") => `(tactic| (k_here; (with_reducible show wpAny _ _ (subscriptTail _ _ (Value.ref 194) _) _ _ _); k_dflt (refine' kinds_item ?k1 ?k2 ?k3 ?_ ?k4 ?k5; (case k1 => k_asm); (case k2 => k_asm); (case k3 => first | assumption | exact kd_mem (by assumption) (by assumption) | exact Kd.of (by omega) (by omega)); (case k4 => with_unfolding_all rfl); (case k5 => intro _; with_unfolding_all rfl); k_whole); intro a9 ty9 tz9 hg9))
local macro_rules | `(tactic| walk_at "subscriptTail Name BinOp") => `(tactic| (k_here; (with_reducible show wpAny _ _ (subscriptTail _ _ (Value.ref 197) _) _ _ _); k_dflt (refine' other_item ?k1 ?k2 ?k3 ?k6 ?_ ?k4 ?k5; (case k1 => k_asm); (case k2 => k_asm); (case k3 => omega); (case k6 => omega); (case k4 => with_unfolding_all rfl); (case k5 => intro _; with_unfolding_all rfl); k_whole); intro t9))
local macro_rules | `(tactic| walk_at "subscriptTail Name") => `(tactic| (k_here; (with_reducible show wpAny _ _ (subscriptTail _ _ (Value.ref 194) _) _ _ _); k_dflt (refine' kinds_item ?k1 ?k2 ?k3 ?_ ?k4 ?k5; (case k1 => k_asm); (case k2 => k_asm); (case k3 => first | assumption | exact kd_mem (by assumption) (by assumption) | exact Kd.of (by omega) (by omega)); (case k4 => with_unfolding_all rfl); (case k5 => intro _; with_unfolding_all rfl); k_whole); intro a9 ty9 tz9 hg9))
local macro_rules | `(tactic| walk_at "subscriptTail Name") => `(tactic| (k_here; (with_reducible show wpAny _ _ (subscriptTail _ _ (Value.ref 197) _) _ _ _); k_dflt (refine' other_item ?k1 ?k2 ?k3 ?k6 ?_ ?k4 ?k5; (case k1 => k_asm); (case k2 => k_asm); (case k3 => omega); (case k6 => omega); (case k4 => with_unfolding_all rfl); (case k5 => intro _; with_unfolding_all rfl); k_whole); intro t9))
local macro_rules | `(tactic| walk_at "subscriptTail") => `(tactic| (k_here; (with_reducible show wpAny _ _ (subscriptTail _ _ (Value.ref 194) _) _ _ _); k_dflt (refine' kinds_item ?k1 ?k2 ?k3 ?_ ?k4 ?k5; (case k1 => k_asm); (case k2 => k_asm); (case k3 => first | assumption | exact kd_mem (by assumption) (by assumption) | exact Kd.of (by omega) (by omega)); (case k4 => with_unfolding_all rfl); (case k5 => intro _; with_unfolding_all rfl); k_whole); intro a9 ty9 tz9 hg9))
local macro_rules | `(tactic| walk_at "subscriptTail") => `(tactic| (k_here; (with_reducible show wpAny _ _ (subscriptTail _ _ (Value.ref 197) _) _ _ _); k_dflt (refine' other_item ?k1 ?k2 ?k3 ?k6 ?_ ?k4 ?k5; (case k1 => k_asm); (case k2 => k_asm); (case k3 => omega); (case k6 => omega); (case k4 => with_unfolding_all rfl); (case k5 => intro _; with_unfolding_all rfl); k_whole); intro t9))
local macro_rules | `(tactic| k_ne) => `(tactic| first | (refine neN ?_; (try dsimp only); omega) | (refine ne_list_cell (by assumption) (by k_mem) (by k_mem) (by assumption)))
local macro_rules | `(tactic| walk_at "call builtin:list.append") => `(tactic| (k_here; (with_reducible show wpAny _ _ (call (Value.builtin _) [Value.ref _, _]) _ _ _); k_dflt (refine' append_K ?k1 ?k2 ?k3 ?_ ?z; (case k1 => k_asm); (case k2 => k_asm); (case k3 => k_upd); (case z => first | size_fits | (simp only [List.size_toArray]; rw [sizeLine_eq]; omega)); k_whole); intro h' F' N'; (try k_sweep)))
local macro_rules | `(tactic| walk_at "exec Assign cons ListComp") => `(tactic| (k_here; (with_reducible show wpAny _ _ (exec (Stmt.Assign [Expr.Name _ _] (Expr.ListComp (Expr.Subscript (Expr.Name (Str.ofString "_law_KINDS") _) _ _) _ _ _) _) _) _ _ _); refine Stop.intro ?_))
local macro_rules | `(tactic| walk_at "exec Assign") => `(tactic| (k_here; (with_reducible show wpAny _ _ (exec (Stmt.Assign [Expr.Name _ _] (Expr.ListComp (Expr.Subscript (Expr.Name (Str.ofString "_law_KINDS") _) _ _) _ _ _) _) _) _ _ _); refine Stop.intro ?_))
local macro_rules | `(tactic| walk_at "delItem ref str") => `(tactic| (k_here; (with_reducible show wpAny _ _ (delItem (Value.ref _) _) _ _ _); k_dflt (refine' del_own ?F ?X ?I ?hQ ?hS ?hF ?_; (case F => k_asm); (case X => k_asm); (case I => k_inst); (case hS => k_is); (case hF => k_is); (case hQ => k_is); k_whole)))
local macro_rules | `(tactic| walk_at "delItem ref") => `(tactic| (k_here; (with_reducible show wpAny _ _ (delItem (Value.ref _) _) _ _ _); k_dflt (refine' del_own ?F ?X ?I ?hQ ?hS ?hF ?_; (case F => k_asm); (case X => k_asm); (case I => k_inst); (case hS => k_is); (case hF => k_is); (case hQ => k_is); k_whole)))
local macro_rules | `(tactic| walk_at "call ref") => `(tactic| (k_here; k_dflt (refine' items_spec (hz := ?hz) ?q1 ?q2 ?q3 ?q4 ?q5 ?q6 ?q7 ?q8 ?_; (case q1 => k_asm); (case q2 => k_asm); (case q3 => k_asm); (case q4 => k_asm); (case q5 => k_asm); (case q6 => first | exact rfl | assumption); (case q7 => ktr_room); (case q8 => ktr_units); (case hz => omega); k_whole); intro D9 h9 tk9 F9 N9 l9; (try dsimp only); (try k_fold)))
local macro_rules | `(tactic| walk_at "exec Assign") => `(tactic| (k_here; (with_reducible show wpAny _ _ (exec (Stmt.Assign [Expr.Name (Str.ofString "told") _] _ _) _) _ _ _); (have hq9 : True := by (rename RowTo _ _ _ _ _ => hb9); trivial); clear hq9; refine Stop.intro ?_))
local macro_rules | `(tactic| walk_at "compareOp Eq ref ref") => `(tactic| (k_here; (with_reducible show wpAny _ _ (compareOp CmpOp.Eq (Value.ref _) (Value.ref _)) _ _ _); refine Stop.intro ?_))
local macro_rules | `(tactic| walk_at "compareOp NotIn ref ref") => `(tactic| (k_here; (with_reducible show wpAny _ _ (compareOp CmpOp.NotIn (Value.ref _) (Value.ref _)) _ _ _); refine Stop.intro ?_))
local macro_rules | `(tactic| walk_at "setItem ref ref ref") => `(tactic| (k_here; (with_reducible show wpAny _ _ (setItem (Value.ref _) (Value.ref _) (Value.ref _)) _ _ _); k_dflt (refine' setall_K ?uF ?uN ?ue ?uo ?uD ?uz1 ?uz2 ?_; (case uF => k_asm); (case uN => k_asm); (case ue => exact rfl); (case uo => assumption); (case uD => assumption); (case uz1 => omega); (case uz2 => omega); k_whole); intro h9 n9 F9 N9; (try dsimp only)))
local macro_rules | `(tactic| walk_at "setItem ref ref") => `(tactic| (k_here; (with_reducible show wpAny _ _ (setItem (Value.ref _) (Value.ref _) (Value.ref _)) _ _ _); k_dflt (refine' setall_K ?uF ?uN ?ue ?uo ?uD ?uz1 ?uz2 ?_; (case uF => k_asm); (case uN => k_asm); (case ue => exact rfl); (case uo => assumption); (case uD => assumption); (case uz1 => omega); (case uz2 => omega); k_whole); intro h9 n9 F9 N9; (try dsimp only)))
local macro_rules | `(tactic| walk_at "setItem") => `(tactic| (k_here; (with_reducible show wpAny _ _ (setItem (Value.ref _) (Value.ref _) (Value.ref _)) _ _ _); k_dflt (refine' setall_K ?uF ?uN ?ue ?uo ?uD ?uz1 ?uz2 ?_; (case uF => k_asm); (case uN => k_asm); (case ue => exact rfl); (case uo => assumption); (case uD => assumption); (case uz1 => omega); (case uz2 => omega); k_whole); intro h9 n9 F9 N9; (try dsimp only)))
local macro_rules | `(tactic| walk_at "subscriptTail") => `(tactic| (k_here; (with_reducible show wpAny _ _ (subscriptTail _ _ (Value.ref _) (Value.int _ _)) _ _ _); k_dflt (first
  | (refine' pair0 ?uj ?uF ?uX ?ug ?_ ?us ?ut; (case uj => first | rfl | decide); (case ug => assumption); (case uF => k_asm); (case uX => k_asm); (case us => with_unfolding_all rfl); (case ut => intro _; with_unfolding_all rfl); k_whole)
  | (refine' pair1 ?uj ?uF ?uX ?ug ?_ ?us ?ut; (case uj => first | rfl | decide); (case ug => assumption); (case uF => k_asm); (case uX => k_asm); (case us => with_unfolding_all rfl); (case ut => intro _; with_unfolding_all rfl); k_whole))))
local macro_rules | `(tactic| walk_at "subscriptTail Subscript") => `(tactic| (k_here; (with_reducible show wpAny _ _ (subscriptTail _ _ (Value.ref _) (Value.int _ _)) _ _ _); k_dflt (first
  | (refine' pair0 ?uj ?uF ?uX ?ug ?_ ?us ?ut; (case uj => first | rfl | decide); (case ug => assumption); (case uF => k_asm); (case uX => k_asm); (case us => with_unfolding_all rfl); (case ut => intro _; with_unfolding_all rfl); k_whole)
  | (refine' pair1 ?uj ?uF ?uX ?ug ?_ ?us ?ut; (case uj => first | rfl | decide); (case ug => assumption); (case uF => k_asm); (case uX => k_asm); (case us => with_unfolding_all rfl); (case ut => intro _; with_unfolding_all rfl); k_whole))))
local macro_rules | `(tactic| walk_at "subscriptTail Subscript Constant") => `(tactic| (k_here; (with_reducible show wpAny _ _ (subscriptTail _ _ (Value.ref _) (Value.int _ _)) _ _ _); k_dflt (first
  | (refine' pair0 ?uj ?uF ?uX ?ug ?_ ?us ?ut; (case uj => first | rfl | decide); (case ug => assumption); (case uF => k_asm); (case uX => k_asm); (case us => with_unfolding_all rfl); (case ut => intro _; with_unfolding_all rfl); k_whole)
  | (refine' pair1 ?uj ?uF ?uX ?ug ?_ ?us ?ut; (case uj => first | rfl | decide); (case ug => assumption); (case uF => k_asm); (case uX => k_asm); (case us => with_unfolding_all rfl); (case ut => intro _; with_unfolding_all rfl); k_whole))))
local macro_rules | `(tactic| walk_at "subscriptTail Subscript Constant ref int") => `(tactic| (k_here; (with_reducible show wpAny _ _ (subscriptTail _ _ (Value.ref _) (Value.int _ _)) _ _ _); k_dflt (first
  | (refine' pair0 ?uj ?uF ?uX ?ug ?_ ?us ?ut; (case uj => first | rfl | decide); (case ug => assumption); (case uF => k_asm); (case uX => k_asm); (case us => with_unfolding_all rfl); (case ut => intro _; with_unfolding_all rfl); k_whole)
  | (refine' pair1 ?uj ?uF ?uX ?ug ?_ ?us ?ut; (case uj => first | rfl | decide); (case ug => assumption); (case uF => k_asm); (case uX => k_asm); (case us => with_unfolding_all rfl); (case ut => intro _; with_unfolding_all rfl); k_whole))))
local macro_rules | `(tactic| walk_at "subscriptTail Subscript Constant ref") => `(tactic| (k_here; (with_reducible show wpAny _ _ (subscriptTail _ _ (Value.ref _) (Value.int _ _)) _ _ _); k_dflt (first
  | (refine' pair0 ?uj ?uF ?uX ?ug ?_ ?us ?ut; (case uj => first | rfl | decide); (case ug => assumption); (case uF => k_asm); (case uX => k_asm); (case us => with_unfolding_all rfl); (case ut => intro _; with_unfolding_all rfl); k_whole)
  | (refine' pair1 ?uj ?uF ?uX ?ug ?_ ?us ?ut; (case uj => first | rfl | decide); (case ug => assumption); (case uF => k_asm); (case uX => k_asm); (case us => with_unfolding_all rfl); (case ut => intro _; with_unfolding_all rfl); k_whole))))

local macro_rules | `(tactic| walk_at "call ref") => `(tactic| (k_here; k_dflt (refine' headers_new (hz := ?hz) (hrow := ?hrow) ?q1 ?q2 ?q3 ?q4 ?q5 ?q6 ?q7 ?q8 ?_; (case q1 => k_asm); (case q2 => k_asm); (case q3 => k_asm); (case q4 => k_asm); (case q5 => k_asm); (case q6 => first | exact rfl | assumption); (case q7 => ktr_room); (case q8 => ktr_units); (case hz => exact Nat.zero_le _); (case hrow => exact RowIn.nil); k_whole); intro x9 dx9 kt9 h9 tk9 F9 N9 l9 l99; (have ll9 := l9); (try k_lt ll9); (try dsimp only); (try k_fold)))
local macro_rules | `(tactic| walk_at "call ref") => `(tactic| (k_here; (with_reducible show wpAny _ _ (call (Value.ref 97) _ _) _ _ _); refine Stop.intro ?_))
local macro_rules | `(tactic| walk_at "call ref") => `(tactic| (k_here; (with_reducible show wpAny _ _ (call (Value.ref 181) _ _) _ _ _); refine Stop.intro ?_))
local macro_rules | `(tactic| walk_at "call ref") => `(tactic| (k_here; (with_reducible show wpAny _ _ (call (Value.ref 102) _ _) _ _ _); refine Stop.intro ?_))

def NsJ (pp : Params) (ks1 : List Int) (R x dx S Fh : Addr) (Is : List Addr) (kt : Tok) (bs rf : List (Addr × Obj)) (K : List (Str × Value)) (i us uf : Nat) (m : Str → Option Value) (nx : List (Addr × Obj)) : Prop :=
  ∃ (rvs : List Value) (nr : Nat) (svs : List Value) (ns : Nat) (fvs : List Value) (nf : Nat) (add : List (Addr × Obj)), nx = (R, listOf rvs.toArray nr) :: (x, instObj 184 dx) :: (dx, dictOf [⟨PyData.keyHash pp (Str.ofString "_headers"), .str (Str.ofString "_headers") kt, .ref R⟩] 1) :: (S, listOf svs.toArray ns) :: (Fh, listOf fvs.toArray nf) :: (add ++ bs) ∧ (∀ p ∈ K, m p.1 = some p.2) ∧ rvs.length ≤ 50 ∧
    (∀ v ∈ svs, ∃ ks, StIn pp (add ++ rf) v ks) ∧ svs.length ≤ us ∧ (∀ v ∈ fvs, ∃ ks, StIn pp (add ++ rf) v ks ∧ Reach ks1 (i + 1) ks) ∧ fvs.length ≤ uf ∧ (∀ p ∈ add, p.1 ≠ R ∧ p.1 ≠ S ∧ p.1 ≠ Fh ∧ ∀ q ∈ Is, p.1 ≠ q)
def OutJ (pp : Params) (ks1 : List Int) (R x dx S : Addr) (kt : Tok) (base : List (Addr × Obj)) (K : List (Str × Value)) (i : Nat) (m : Str → Option Value) (nx : List (Addr × Obj)) : Prop :=
  ∃ (rvs : List Value) (nr : Nat) (svs : List Value) (ns : Nat) (add : List (Addr × Obj)) (Bd : Addr) (bvs : List Value) (nb : Nat), nx = (R, listOf rvs.toArray nr) :: (x, instObj 184 dx) :: (dx, dictOf [⟨PyData.keyHash pp (Str.ofString "_headers"), .str (Str.ofString "_headers") kt, .ref R⟩] 1) :: (S, listOf svs.toArray ns) :: (add ++ base) ∧ (∀ p ∈ (Str.ofString "border", Value.ref Bd) :: K, m p.1 = some p.2) ∧ rvs.length ≤ 50 ∧ (Bd, listOf bvs.toArray nb) ∈ add ∧
    (∀ v ∈ svs, ∃ ks, StIn pp (add ++ base) v ks) ∧ svs.length ≤ 9 ^ i ∧ (∀ v ∈ bvs, ∃ ks, StIn pp (add ++ base) v ks ∧ Reach ks1 i ks) ∧ bvs.length ≤ 8 ^ i ∧ (∀ p ∈ add, p.1 ≠ R ∧ p.1 ≠ S)
set_option maxRecDepth 100000 in
set_option maxHeartbeats 8000000 in
theorem sooner_spec {w : World} {mean : ExcName → Option Value} {mg mb : Str → Option Value} {dp un : Nat} {gd : Option (List Code)} {cn : Str} {cs : Scope} {a : Addr} {ccd : Value} {cl : List (Str × Addr)} {outer : List Env} {A₀ : Around} {base h₀ : Heap} {L : Addr} {m : Str → Option Value} {s : Shared}
    {Q E : Value → Shared → Prop} {l1 l2 : Addr} {vs1 vs2 : List Value} {ks1 ks2 : List Int} {n1 n2 : Nat} {cost : Int} {tc : Tok} {rest : List (Addr × Obj)} (B : Below A₀ base outer h₀) (F : Fr h₀ L s.heap m) (X : (hd.heap_39 w.params).In h₀) (N : News h₀ L s.heap ((l1, listOf vs1.toArray n1) :: (l2, listOf vs2.toArray n2) :: rest))
    (T : Top hd.view_39 (looseW hd.view_39 [Str.ofString "tspecials", Str.ofString "_name_disallowed_re", Str.ofString "_value_disallowed_re", Str.ofString "_formatparam"]) mean mg mb h₀)
    (hk : cs.kind = .function) (hdp : dp + 12 < recursionLimit) (hu : un + 200 < cLine) (hi1 : IntsAre vs1 ks1) (hi2 : IntsAre vs2 ks2) (hk1 : ∀ k ∈ ks1, Kd k) (hk2 : ∀ k ∈ ks2, Kd k) (hz1 : ks1.length ≤ 3) (hz2 : ks2.length ≤ 3) (hc0 : 0 ≤ cost) (hc6 : cost ≤ 6) (hns : ∀ n r, Reach ks1 n r → 0 < n → (n : Int) < cost → r ≠ ks2)
    (hret : ∀ h' tk', Fr h₀ L h' m → News h₀ L h' ((l1, listOf vs1.toArray n1) :: (l2, listOf vs2.toArray n2) :: rest) → Q (.bool (decide (ks1 = ks2) == decide (cost = 0))) { s with heap := h', toks := tk' }) :
    wpAny (model Challenge.rw_dj5017_01.row.prog w) (ktrTop dp un gd cn cs L a ccd cl outer) (call (.ref 212) [.ref l1, .ref l2, .int cost tc] []) Q E s := by
  w_top off
  revert X; k_fill; intro X
  refine wpAny_call ?_
  (refine' code_def ?k1 ?k2 ?k3 ?k4 ?k5 ?kA ?kF ?kK ?k6 ?k7 ?k8 ?k9 ?kB ?_ ?c2 ?c3 ?c4 ?c5; (case kA => exact rfl); (case kF => exact rfl); (case kK => assumption); (case k1 => k_asm); (case k2 => k_asm); (case k3 => k_asm); (case k4 => k_asm); (case k5 => k_asm); (case k6 => k_is); (case k7 => k_is); (case k8 => ktr_room); (case k9 => first | exact BindsTo.of_eq rfl | exact binds_K (by k_in) rfl (by k_is) rfl rfl rfl); (case c5 => decide); (case kB => exact locs rfl); (case c2 => exact rfl); (case c3 => exact rfl); (case c4 => exact rfl); k_whole; intro g' L' h' FG' F' N' B' X' T'; (try dsimp only); (try k_lift B'); (try k_fold))
  k_steps
  refine stop_of ?_
  rename Fr _ _ _ _ => FF0
  (with_reducible refine' kinds_asg FF0 ?gsw1 ?gL1 ?gh1 ?gclos1 ?gcell1 ?gkind1 ?gnames1 ?gx1 ?gy1 ?gp1 ?gm1 ?gs1)
  (case gsw1 => with_unfolding_all rfl); (case gL1 => with_unfolding_all rfl); (case gh1 => with_unfolding_all rfl); (case gclos1 => with_unfolding_all rfl); (case gcell1 => decide); (case gkind1 => with_unfolding_all rfl); (case gnames1 => decide); (case gx1 => with_unfolding_all rfl); (case gy1 => with_unfolding_all rfl); (case gp1 => with_unfolding_all rfl); (case gs1 => intro _; with_unfolding_all rfl)
  k_steps
  refine stop_of ?_
  rename Fr _ _ _ _ => FF
  rename News _ _ _ _ => NN
  refine ⟨_, _, vs2, ks2, rfl, NN.isList (.tail _ (.tail _ (.tail _ (.tail _ (.head _))))), hi2, by omega, hk2, FF, NN, ?_, ?_⟩
  · intro C k t9 s2 m2 E2 hC hkd hns9 hm2 hk9
    k_steps
    refine stop_of ⟨⟨_, _, _, rfl, by assumption⟩, ⟨_, _, rfl, fun _ _ e => e⟩⟩
  intro G gvs gn h1 tk1 F1 N1 hG hgr
  clear FF NN
  k_steps
  refine stop_of ?_
  rename Fr _ _ _ _ => FF0
  (with_reducible refine' kinds_asg FF0 ?gsw2 ?gL2 ?gh2 ?gclos2 ?gcell2 ?gkind2 ?gnames2 ?gx2 ?gy2 ?gp2 ?gm2 ?gs2)
  (case gsw2 => with_unfolding_all rfl); (case gL2 => with_unfolding_all rfl); (case gh2 => with_unfolding_all rfl); (case gclos2 => with_unfolding_all rfl); (case gcell2 => decide); (case gkind2 => with_unfolding_all rfl); (case gnames2 => decide); (case gx2 => with_unfolding_all rfl); (case gy2 => with_unfolding_all rfl); (case gp2 => with_unfolding_all rfl); (case gs2 => intro _; with_unfolding_all rfl)
  k_steps
  refine stop_of ?_
  rename Fr _ _ _ _ => FF
  rename News _ _ _ _ => NN
  refine ⟨_, _, vs1, ks1, rfl, NN.isList (.tail _ (.tail _ (.tail _ (.tail _ (.head _))))), hi1, by omega, hk1, FF, NN, ?_, ?_⟩
  · intro C k t9 s2 m2 E2 hC hkd hns9 hm2 hk9
    k_steps
    refine stop_of ⟨⟨_, _, _, rfl, by assumption⟩, ⟨_, _, rfl, fun _ _ e => e⟩⟩
  intro St svs0 sn h2 tk2 F2 N2 hSt hsr
  clear FF NN
  k_steps
  refine stop_of ?_
  rename Fr _ _ _ _ => FF0
  (with_reducible refine' for_core FF0 ?fh3 ?fs3 ?fE3)
  (case fs3 => intro _; with_unfolding_all rfl)
  (case fE3 => passes_own)
  k_steps
  rename IsRange _ _ _ _ _ _ _ _ => hR
  rename News g' _ _ _ => NE
  rename Fr g' _ _ _ => FE
  rename (_ ∧ _ ∧ AllLt _ rest) => haR
  rename (_ ∧ _ ∧ _ ∧ _ ∧ _ ∧ _ ∧ _ ∧ AllLt _ rest) => haS
  rename (_ ∧ _ ∧ _ ∧ _ ∧ _ ∧ _ ∧ _ ∧ _ ∧ AllLt _ rest) => haB
  obtain ⟨R, x, dx, kt, Bd, S, mm, N3, F3, hRG, hRSt, haR, haS, haB, hdx, hRd, qb, q1, q2, q3, q4, q5, q6⟩ : ∃ (R x dx : Addr) (kt : Tok) (Bd S : Addr) (mm : Str → Option Value), News g' _ _ ((Bd, listOf [Value.ref St].toArray 0) :: (S, listOf [Value.ref St].toArray 0) :: (St, listOf svs0.toArray sn) :: (G, listOf gvs.toArray gn) :: (R, listOf ([] : List Value).toArray 0) :: (x, instObj 184 dx) :: (dx, dictOf [⟨PyData.keyHash w.params (Str.ofString "_headers"), .str (Str.ofString "_headers") kt, .ref R⟩] 1) :: (l1, listOf vs1.toArray n1) :: (l2, listOf vs2.toArray n2) :: rest) ∧ Fr g' _ _ mm ∧ R ≠ G ∧ R ≠ St ∧ (@LT.lt Nat _ l1 R ∧ @LT.lt Nat _ l2 R ∧ AllLt R rest) ∧ (@LT.lt Nat _ St S ∧ @LT.lt Nat _ G S ∧ @LT.lt Nat _ R S ∧ @LT.lt Nat _ x S ∧ @LT.lt Nat _ dx S ∧ @LT.lt Nat _ l1 S ∧ @LT.lt Nat _ l2 S ∧ AllLt S rest) ∧ (@LT.lt Nat _ S Bd ∧ @LT.lt Nat _ R Bd) ∧ @LT.lt Nat _ dx x ∧ @LT.lt Nat _ R dx ∧ mm (Str.ofString "border") = some (.ref Bd) ∧ mm (Str.ofString "row") = some (.ref R) ∧ mm (Str.ofString "table") = some (.ref x) ∧ mm (Str.ofString "goal") = some (.ref G) ∧ mm (Str.ofString "seen") = some (.ref S) ∧ mm (Str.ofString "start") = some (.ref St) ∧ mm (Str.ofString "cost") = some (.int cost tc) :=
    ⟨_, _, _, _, _, _, _, NE, FE, hG _ (.head _), hSt _ (.tail _ (.head _)), haR, haS, ⟨by omega, by omega⟩, by assumption, by omega, rfl, rfl, rfl, rfl, rfl, rfl, rfl⟩
  have fR : ∀ p ∈ ((St, listOf svs0.toArray sn) :: (G, listOf gvs.toArray gn) :: (l1, listOf vs1.toArray n1) :: (l2, listOf vs2.toArray n2) :: rest), p.1 ≠ R := List.forall_mem_cons.mpr ⟨hRSt.symm, List.forall_mem_cons.mpr ⟨hRG.symm, List.forall_mem_cons.mpr ⟨Nat.ne_of_lt haR.1, List.forall_mem_cons.mpr ⟨Nat.ne_of_lt haR.2.1, allLt_ne haR.2.2⟩⟩⟩⟩
  have fS : ∀ p ∈ ((St, listOf svs0.toArray sn) :: (G, listOf gvs.toArray gn) :: (l1, listOf vs1.toArray n1) :: (l2, listOf vs2.toArray n2) :: rest), p.1 ≠ S := List.forall_mem_cons.mpr ⟨Nat.ne_of_lt haS.1, List.forall_mem_cons.mpr ⟨Nat.ne_of_lt haS.2.1, List.forall_mem_cons.mpr ⟨Nat.ne_of_lt haS.2.2.2.2.2.1, List.forall_mem_cons.mpr ⟨Nat.ne_of_lt haS.2.2.2.2.2.2.1, allLt_ne haS.2.2.2.2.2.2.2⟩⟩⟩⟩
  have hRS : @Ne Nat R S := by omega
  have hxS : @Ne Nat x S := by omega
  have hdS : @Ne Nat dx S := by omega
  have hBR : @Ne Nat Bd R := by omega
  have hBS : @Ne Nat Bd S := by omega
  have stSt : ∀ bs : List (Addr × Obj), StIn w.params (bs ++ ((St, listOf svs0.toArray sn) :: (G, listOf gvs.toArray gn) :: (l1, listOf vs1.toArray n1) :: (l2, listOf vs2.toArray n2) :: rest)) (.ref St) ks1 := fun bs => ⟨St, svs0, sn, rfl, List.mem_append.mpr (.inr (.head _)), hsr.mono (fun _ hp => nomatch hp)⟩
  refine loop_range (n := (cost - 1 - 0).toNat) rfl hR (small_one (by omega) (by omega) (by omega) (by omega)) (rangeSize_nat _ _) F3 (news_sub N3 (news' := (R, listOf ([] : List Value).toArray 0) :: (x, instObj 184 dx) :: (dx, dictOf [⟨PyData.keyHash w.params (Str.ofString "_headers"), .str (Str.ofString "_headers") kt, .ref R⟩] 1) :: (S, listOf [Value.ref St].toArray 0) :: ([(Bd, listOf [Value.ref St].toArray 0)] ++ ((St, listOf svs0.toArray sn) :: (G, listOf gvs.toArray gn) :: (l1, listOf vs1.toArray n1) :: (l2, listOf vs2.toArray n2) :: rest))) (fun p hp => by simp only [List.mem_cons, List.cons_append, List.nil_append] at hp ⊢; rcases hp with h | h | h | h | h | h | h | h | h | h <;> simp [h])) (OutJ w.params ks1 R x dx S kt ((St, listOf svs0.toArray sn) :: (G, listOf gvs.toArray gn) :: (l1, listOf vs1.toArray n1) :: (l2, listOf vs2.toArray n2) :: rest) [(Str.ofString "row", Value.ref R), (Str.ofString "table", Value.ref x), (Str.ofString "goal", Value.ref G), (Str.ofString "seen", Value.ref S), (Str.ofString "start", Value.ref St), (Str.ofString "cost", Value.int cost tc)]) ?_ ?_ ?_
  · refine ⟨[], 0, [.ref St], 0, [(Bd, listOf [Value.ref St].toArray 0)], Bd, [.ref St], 0, rfl, ?_, by simp, .head _, ?_, by simp, ?_, by simp, ?_⟩
    · intro p hp; simp only [List.mem_cons, List.not_mem_nil, or_false] at hp; rcases hp with rfl | rfl | rfl | rfl | rfl | rfl | rfl; exact qb; exact q1; exact q2; exact q3; exact q4; exact q5; exact q6
    · intro v hv
      rw [List.mem_singleton.mp hv]; exact ⟨ks1, stSt _⟩
    · intro v hv
      rw [List.mem_singleton.mp hv]; exact ⟨ks1, stSt _, .zero⟩
    · intro p hp
      rw [List.mem_singleton.mp hp]; exact ⟨hBR, hBS⟩
  · rintro i tv m₁ nx h3 tk3 I1 oI1 hi ⟨rvs, nr, svs, ns, add1, Bd1, bvs, nb, rfl, hK, hrl, hBd, hsv, hsl, hbv, hbl, hadd1⟩ hnI1 F4 N4 hoI1
    have hi4 : i ≤ 4 := by omega
    have h9i : 9 ^ i ≤ 9 ^ 4 := Nat.pow_le_pow_right (by decide) hi4
    have h8i : 8 ^ i ≤ 8 ^ 4 := Nat.pow_le_pow_right (by decide) hi4
    have h89 : 8 ^ i ≤ 9 ^ i := Nat.pow_le_pow_left (by decide) i
    simp only [Nat.reducePow] at h9i h8i
    obtain ⟨fk0, qk0⟩ := fr_cons F4 rfl (show m₁ (Str.ofString "border") = some (.ref Bd1) from hK _ (.head _))
    obtain ⟨fk1, qk1⟩ := fr_cons fk0 qk0 (show m₁ (Str.ofString "row") = some (.ref R) from hK _ (.tail _ (.head _)))
    obtain ⟨fk2, qk2⟩ := fr_cons fk1 qk1 (show m₁ (Str.ofString "table") = some (.ref x) from hK _ (.tail _ (.tail _ (.head _))))
    obtain ⟨fk3, qk3⟩ := fr_cons fk2 qk2 (show m₁ (Str.ofString "goal") = some (.ref G) from hK _ (.tail _ (.tail _ (.tail _ (.head _)))))
    obtain ⟨fk4, qk4⟩ := fr_cons fk3 qk3 (show m₁ (Str.ofString "seen") = some (.ref S) from hK _ (.tail _ (.tail _ (.tail _ (.tail _ (.head _))))))
    obtain ⟨fk5, qk5⟩ := fr_cons fk4 qk4 (show m₁ (Str.ofString "start") = some (.ref St) from hK _ (.tail _ (.tail _ (.tail _ (.tail _ (.tail _ (.head _)))))))
    obtain ⟨fk6, qk6⟩ := fr_cons fk5 qk5 (show m₁ (Str.ofString "cost") = some (.int cost tc) from hK _ (.tail _ (.tail _ (.tail _ (.tail _ (.tail _ (.tail _ (.head _))))))))
    have F4a := fk6
    clear fk0 fk1 fk2 fk3 fk4 fk5 fk6 qk6 qk5 qk4 qk3 qk2 qk1 qk0
    have hI1R : @Ne Nat R I1 := neN (hnI1 (R, listOf rvs.toArray nr) (.head _))
    have hI1S : @Ne Nat S I1 := neN (hnI1 (S, listOf svs.toArray ns) (.tail _ (.tail _ (.tail _ (.head _)))))
    have hoI1' : ∀ p ∈ add1 ++ ((St, listOf svs0.toArray sn) :: (G, listOf gvs.toArray gn) :: (l1, listOf vs1.toArray n1) :: (l2, listOf vs2.toArray n2) :: rest), p.1 ≠ I1 := fun p hp => hnI1 p (.tail _ (.tail _ (.tail _ (.tail _ hp))))
    clear F4 F3 N3 FE NE hR
    exact by
      refine wpAny_assign_Name ?_
      k_steps
      refine stop_of ?_
      rename Fr _ _ _ _ => FF0
      (with_reducible refine' for_core FF0 ?fh4 ?fs4 ?fE4)
      (case fs4 => intro _; with_unfolding_all rfl)
      (case fE4 => passes_own)
      k_steps
      rename News g' _ _ _ => NE
      rename Fr g' _ _ _ => FE
      rename (_ ∧ _ ∧ _ ∧ _ ∧ _ ∧ AllLt _ (add1 ++ _)) => haF
      obtain ⟨Fh, mm1, N5, F5, haF, j0, j1, j2, j3, j4, j5, j6, j7⟩ : ∃ (Fh : Addr) (mm : Str → Option Value), News g' _ _ ((Fh, listOf ([] : List Value).toArray 0) :: (I1, oI1) :: (R, listOf rvs.toArray nr) :: (x, instObj 184 dx) :: (dx, dictOf [⟨PyData.keyHash w.params (Str.ofString "_headers"), .str (Str.ofString "_headers") kt, .ref R⟩] 1) :: (S, listOf svs.toArray ns) :: (add1 ++ ((St, listOf svs0.toArray sn) :: (G, listOf gvs.toArray gn) :: (l1, listOf vs1.toArray n1) :: (l2, listOf vs2.toArray n2) :: rest))) ∧ Fr g' _ _ mm ∧ (@LT.lt Nat _ I1 Fh ∧ @LT.lt Nat _ R Fh ∧ @LT.lt Nat _ x Fh ∧ @LT.lt Nat _ dx Fh ∧ @LT.lt Nat _ S Fh ∧ AllLt Fh (add1 ++ ((St, listOf svs0.toArray sn) :: (G, listOf gvs.toArray gn) :: (l1, listOf vs1.toArray n1) :: (l2, listOf vs2.toArray n2) :: rest))) ∧ mm (Str.ofString "border") = some (.ref Bd1) ∧ mm (Str.ofString "fresh") = some (.ref Fh) ∧ mm (Str.ofString "row") = some (.ref R) ∧ mm (Str.ofString "table") = some (.ref x) ∧ mm (Str.ofString "goal") = some (.ref G) ∧ mm (Str.ofString "seen") = some (.ref S) ∧ mm (Str.ofString "start") = some (.ref St) ∧ mm (Str.ofString "cost") = some (.int cost tc) := ⟨_, _, NE, FE, haF, rfl, rfl, rfl, rfl, rfl, rfl, rfl, rfl⟩
      have hb1 : ∀ p ∈ ((I1, oI1) :: (add1 ++ ((St, listOf svs0.toArray sn) :: (G, listOf gvs.toArray gn) :: (l1, listOf vs1.toArray n1) :: (l2, listOf vs2.toArray n2) :: rest))), p.1 ≠ R ∧ p.1 ≠ S ∧ p.1 ≠ Fh := List.forall_mem_cons.mpr ⟨⟨hI1R.symm, hI1S.symm, Nat.ne_of_lt haF.1⟩, fun p hp => ⟨(List.mem_append.mp hp).elim (fun q => (hadd1 p q).1) (fR p), (List.mem_append.mp hp).elim (fun q => (hadd1 p q).2) (fS p), allLt_ne haF.2.2.2.2.2 p hp⟩⟩
      have hFR : @Ne Nat R Fh := by omega
      have hFx : @Ne Nat x Fh := by omega
      have hFd : @Ne Nat dx Fh := by omega
      have hFS : @Ne Nat S Fh := by omega
      refine loop_list (its := bvs) (nl := nb) rfl F5 (news_sub N5 (news' := (R, listOf rvs.toArray nr) :: (x, instObj 184 dx) :: (dx, dictOf [⟨PyData.keyHash w.params (Str.ofString "_headers"), .str (Str.ofString "_headers") kt, .ref R⟩] 1) :: (S, listOf svs.toArray ns) :: (Fh, listOf ([] : List Value).toArray 0) :: ([] ++ ((I1, oI1) :: (add1 ++ ((St, listOf svs0.toArray sn) :: (G, listOf gvs.toArray gn) :: (l1, listOf vs1.toArray n1) :: (l2, listOf vs2.toArray n2) :: rest))))) (fun p hp => by simp only [List.mem_cons, List.nil_append] at hp ⊢; rcases hp with h | h | h | h | h | h | h <;> first | (simp only [h, or_true, true_or]; done) | simp [h])) (fun j => NsJ w.params ks1 R x dx S Fh [I1] kt ((I1, oI1) :: (add1 ++ ((St, listOf svs0.toArray sn) :: (G, listOf gvs.toArray gn) :: (l1, listOf vs1.toArray n1) :: (l2, listOf vs2.toArray n2) :: rest))) (add1 ++ ((St, listOf svs0.toArray sn) :: (G, listOf gvs.toArray gn) :: (l1, listOf vs1.toArray n1) :: (l2, listOf vs2.toArray n2) :: rest)) [(Str.ofString "border", Value.ref Bd1), (Str.ofString "fresh", Value.ref Fh), (Str.ofString "row", Value.ref R), (Str.ofString "table", Value.ref x), (Str.ofString "goal", Value.ref G), (Str.ofString "seen", Value.ref S), (Str.ofString "start", Value.ref St), (Str.ofString "cost", Value.int cost tc)] i (9 ^ i + 8 * j) (8 * j)) ?_ ?_ ?_ ?_
      · refine ⟨rvs, nr, svs, ns, [], 0, [], rfl, ?_, hrl, hsv, by omega, (fun _ hp => nomatch hp), by simp, (fun _ hp => nomatch hp)⟩
        intro p hp
        simp only [List.mem_cons, List.not_mem_nil, or_false] at hp
        rcases hp with rfl | rfl | rfl | rfl | rfl | rfl | rfl | rfl
        · exact j0
        · exact j1
        · exact j2
        · exact j3
        · exact j4
        · exact j5
        · exact j6
        · exact j7
      · rintro j m' nx ⟨rvs', nr', svs', ns', fvs', nf', add', rfl, _⟩
        simp [hBd]
      · rintro j v m₂ nx h5 tk5 I2 oI2 hv ⟨rvs2, nr2, svs2, ns2, fvs2, nf2, add2, rfl, hK2, hrl2, hsv2, hsl2, hfv2, hfl2, hadd2⟩ hnI2 F6 N6 hoI2
        have hjl : j < bvs.length := (List.getElem?_eq_some_iff.mp hv).1
        obtain ⟨ks, ⟨a9, vs, na, rfl, ham, hrk⟩, hreach⟩ := hbv v (List.mem_of_getElem? hv)
        have hvl := (hrk.at X' (nX := (add1 ++ ((St, listOf svs0.toArray sn) :: (G, listOf gvs.toArray gn) :: (l1, listOf vs1.toArray n1) :: (l2, listOf vs2.toArray n2) :: rest))) (fun p hp => hp)).length
        have hrl9 := hreach.len
        obtain ⟨fk0, qk0⟩ := fr_cons F6 rfl (show m₂ (Str.ofString "border") = some (.ref Bd1) from hK2 _ (.head _))
        obtain ⟨fk1, qk1⟩ := fr_cons fk0 qk0 (show m₂ (Str.ofString "fresh") = some (.ref Fh) from hK2 _ (.tail _ (.head _)))
        obtain ⟨fk2, qk2⟩ := fr_cons fk1 qk1 (show m₂ (Str.ofString "row") = some (.ref R) from hK2 _ (.tail _ (.tail _ (.head _))))
        obtain ⟨fk3, qk3⟩ := fr_cons fk2 qk2 (show m₂ (Str.ofString "table") = some (.ref x) from hK2 _ (.tail _ (.tail _ (.tail _ (.head _)))))
        obtain ⟨fk4, qk4⟩ := fr_cons fk3 qk3 (show m₂ (Str.ofString "goal") = some (.ref G) from hK2 _ (.tail _ (.tail _ (.tail _ (.tail _ (.head _))))))
        obtain ⟨fk5, qk5⟩ := fr_cons fk4 qk4 (show m₂ (Str.ofString "seen") = some (.ref S) from hK2 _ (.tail _ (.tail _ (.tail _ (.tail _ (.tail _ (.head _)))))))
        obtain ⟨fk6, qk6⟩ := fr_cons fk5 qk5 (show m₂ (Str.ofString "start") = some (.ref St) from hK2 _ (.tail _ (.tail _ (.tail _ (.tail _ (.tail _ (.tail _ (.head _))))))))
        obtain ⟨fk7, qk7⟩ := fr_cons fk6 qk6 (show m₂ (Str.ofString "cost") = some (.int cost tc) from hK2 _ (.tail _ (.tail _ (.tail _ (.tail _ (.tail _ (.tail _ (.tail _ (.head _)))))))))
        have F6a := fk7
        clear fk0 fk1 fk2 fk3 fk4 fk5 fk6 fk7 qk7 qk6 qk5 qk4 qk3 qk2 qk1 qk0
        have hI2R : @Ne Nat R I2 := neN (hnI2 (R, listOf rvs2.toArray nr2) (.head _))
        have hI2S : @Ne Nat S I2 := neN (hnI2 (S, listOf svs2.toArray ns2) (.tail _ (.tail _ (.tail _ (.head _)))))
        have hI2F : @Ne Nat Fh I2 := neN (hnI2 (Fh, listOf fvs2.toArray nf2) (.tail _ (.tail _ (.tail _ (.tail _ (.head _))))))
        have hb2 : ∀ p ∈ ((I2, oI2) :: (add2 ++ ((I1, oI1) :: (add1 ++ ((St, listOf svs0.toArray sn) :: (G, listOf gvs.toArray gn) :: (l1, listOf vs1.toArray n1) :: (l2, listOf vs2.toArray n2) :: rest))))), p.1 ≠ R ∧ p.1 ≠ S ∧ p.1 ≠ Fh := List.forall_mem_cons.mpr ⟨⟨hI2R.symm, hI2S.symm, hI2F.symm⟩, fun p hp => (List.mem_append.mp hp).elim (fun q => ⟨(hadd2 p q).1, (hadd2 p q).2.1, (hadd2 p q).2.2.1⟩) (hb1 p)⟩
        clear F6 F5 N5 FE NE
        exact by
          refine wpAny_assign_Name ?_
          k_steps
          refine stop_of ?_
          rename Fr _ _ _ _ => FF0
          (with_reducible refine' for_core FF0 ?fh5 ?fs5 ?fE5)
          (case fs5 => intro _; with_unfolding_all rfl)
          (case fE5 => passes_own)
          k_steps
          rename IsRange _ _ _ _ _ _ _ _ => hR3
          rename News g' _ _ _ => NE2
          rename Fr g' _ _ _ => FE2
          obtain ⟨mm2, F7, u0, u1, u2, u3, u4, u5, u6, u7, u8⟩ : ∃ (mm : Str → Option Value), Fr g' _ _ mm ∧ mm (Str.ofString "state") = some (.ref a9) ∧ mm (Str.ofString "border") = some (.ref Bd1) ∧ mm (Str.ofString "fresh") = some (.ref Fh) ∧ mm (Str.ofString "row") = some (.ref R) ∧ mm (Str.ofString "table") = some (.ref x) ∧ mm (Str.ofString "goal") = some (.ref G) ∧ mm (Str.ofString "seen") = some (.ref S) ∧ mm (Str.ofString "start") = some (.ref St) ∧ mm (Str.ofString "cost") = some (.int cost tc) := ⟨_, FE2, rfl, rfl, rfl, rfl, rfl, rfl, rfl, rfl, rfl⟩
          refine loop_range (n := 8) rfl hR3 rfl rfl F7 (news_sub NE2 (news' := (R, listOf rvs2.toArray nr2) :: (x, instObj 184 dx) :: (dx, dictOf [⟨PyData.keyHash w.params (Str.ofString "_headers"), .str (Str.ofString "_headers") kt, .ref R⟩] 1) :: (S, listOf svs2.toArray ns2) :: (Fh, listOf fvs2.toArray nf2) :: ([] ++ ((I2, oI2) :: (add2 ++ ((I1, oI1) :: (add1 ++ ((St, listOf svs0.toArray sn) :: (G, listOf gvs.toArray gn) :: (l1, listOf vs1.toArray n1) :: (l2, listOf vs2.toArray n2) :: rest))))))) (fun p hp => by simp only [List.mem_cons, List.nil_append] at hp ⊢; rcases hp with h | h | h | h | h | h | h <;> first | (simp only [h, or_true, true_or]; done) | simp [h])) (fun d => NsJ w.params ks1 R x dx S Fh [I2, I1] kt ((I2, oI2) :: (add2 ++ ((I1, oI1) :: (add1 ++ ((St, listOf svs0.toArray sn) :: (G, listOf gvs.toArray gn) :: (l1, listOf vs1.toArray n1) :: (l2, listOf vs2.toArray n2) :: rest))))) (add2 ++ (add1 ++ ((St, listOf svs0.toArray sn) :: (G, listOf gvs.toArray gn) :: (l1, listOf vs1.toArray n1) :: (l2, listOf vs2.toArray n2) :: rest))) [(Str.ofString "state", Value.ref a9), (Str.ofString "border", Value.ref Bd1), (Str.ofString "fresh", Value.ref Fh), (Str.ofString "row", Value.ref R), (Str.ofString "table", Value.ref x), (Str.ofString "goal", Value.ref G), (Str.ofString "seen", Value.ref S), (Str.ofString "start", Value.ref St), (Str.ofString "cost", Value.int cost tc)] i (9 ^ i + 8 * j + d) (8 * j + d)) ?_ ?_ ?_
          · refine ⟨rvs2, nr2, svs2, ns2, fvs2, nf2, [], rfl, ?_, hrl2, hsv2, by omega, hfv2, by omega, fun _ hp => nomatch hp⟩
            intro p hp
            simp only [List.mem_cons, List.not_mem_nil, or_false] at hp
            rcases hp with rfl | rfl | rfl | rfl | rfl | rfl | rfl | rfl | rfl
            · exact u0
            · exact u1
            · exact u2
            · exact u3
            · exact u4
            · exact u5
            · exact u6
            · exact u7
            · exact u8
          · rintro d tv3 m₅ nx h7 tk7 I3 oI3 hd ⟨rvs3, nr3, svs3, ns3, fvs3, nf3, add3, rfl, hK3, hrl3, hsv3, hsl3, hfv3, hfl3, hadd3⟩ hnI3 F8 N8 hoI3
            obtain ⟨fk0, qk0⟩ := fr_cons F8 rfl (show m₅ (Str.ofString "state") = some (.ref a9) from hK3 _ (.head _))
            obtain ⟨fk1, qk1⟩ := fr_cons fk0 qk0 (show m₅ (Str.ofString "border") = some (.ref Bd1) from hK3 _ (.tail _ (.head _)))
            obtain ⟨fk2, qk2⟩ := fr_cons fk1 qk1 (show m₅ (Str.ofString "fresh") = some (.ref Fh) from hK3 _ (.tail _ (.tail _ (.head _))))
            obtain ⟨fk3, qk3⟩ := fr_cons fk2 qk2 (show m₅ (Str.ofString "row") = some (.ref R) from hK3 _ (.tail _ (.tail _ (.tail _ (.head _)))))
            obtain ⟨fk4, qk4⟩ := fr_cons fk3 qk3 (show m₅ (Str.ofString "table") = some (.ref x) from hK3 _ (.tail _ (.tail _ (.tail _ (.tail _ (.head _))))))
            obtain ⟨fk5, qk5⟩ := fr_cons fk4 qk4 (show m₅ (Str.ofString "goal") = some (.ref G) from hK3 _ (.tail _ (.tail _ (.tail _ (.tail _ (.tail _ (.head _)))))))
            obtain ⟨fk6, qk6⟩ := fr_cons fk5 qk5 (show m₅ (Str.ofString "seen") = some (.ref S) from hK3 _ (.tail _ (.tail _ (.tail _ (.tail _ (.tail _ (.tail _ (.head _))))))))
            obtain ⟨fk7, qk7⟩ := fr_cons fk6 qk6 (show m₅ (Str.ofString "start") = some (.ref St) from hK3 _ (.tail _ (.tail _ (.tail _ (.tail _ (.tail _ (.tail _ (.tail _ (.head _)))))))))
            obtain ⟨fk8, qk8⟩ := fr_cons fk7 qk7 (show m₅ (Str.ofString "cost") = some (.int cost tc) from hK3 _ (.tail _ (.tail _ (.tail _ (.tail _ (.tail _ (.tail _ (.tail _ (.tail _ (.head _))))))))))
            have F8a := fk8
            clear fk0 fk1 fk2 fk3 fk4 fk5 fk6 fk7 fk8 qk8 qk7 qk6 qk5 qk4 qk3 qk2 qk1 qk0
            have hI3R : @Ne Nat R I3 := neN (hnI3 (R, listOf rvs3.toArray nr3) (.head _))
            have hI3x : @Ne Nat x I3 := neN (hnI3 _ (.tail _ (.head _)))
            have hI3d : @Ne Nat dx I3 := neN (hnI3 _ (.tail _ (.tail _ (.head _))))
            have hI3S : @Ne Nat S I3 := neN (hnI3 (S, listOf svs3.toArray ns3) (.tail _ (.tail _ (.tail _ (.head _)))))
            have hI3F : @Ne Nat Fh I3 := neN (hnI3 (Fh, listOf fvs3.toArray nf3) (.tail _ (.tail _ (.tail _ (.tail _ (.head _))))))
            have hb3 : ∀ p ∈ add3 ++ ((I2, oI2) :: (add2 ++ ((I1, oI1) :: (add1 ++ ((St, listOf svs0.toArray sn) :: (G, listOf gvs.toArray gn) :: (l1, listOf vs1.toArray n1) :: (l2, listOf vs2.toArray n2) :: rest))))), p.1 ≠ R ∧ p.1 ≠ S ∧ p.1 ≠ Fh := fun p hp => (List.mem_append.mp hp).elim (fun q => ⟨(hadd3 p q).1, (hadd3 p q).2.1, (hadd3 p q).2.2.1⟩) (hb2 p)
            obtain ⟨r1, hr1⟩ : ∃ r, r = (add1 ++ ((St, listOf svs0.toArray sn) :: (G, listOf gvs.toArray gn) :: (l1, listOf vs1.toArray n1) :: (l2, listOf vs2.toArray n2) :: rest)) := ⟨_, rfl⟩
            obtain ⟨r3, hr3⟩ : ∃ r, r = add3 ++ ((I2, oI2) :: (add2 ++ ((I1, oI1) :: (add1 ++ ((St, listOf svs0.toArray sn) :: (G, listOf gvs.toArray gn) :: (l1, listOf vs1.toArray n1) :: (l2, listOf vs2.toArray n2) :: rest))))) := ⟨_, rfl⟩
            have N8a := news_sub N8 (news' := (R, listOf rvs3.toArray nr3) :: (x, instObj 184 dx) :: (dx, dictOf [⟨PyData.keyHash w.params (Str.ofString "_headers"), .str (Str.ofString "_headers") kt, .ref R⟩] 1) :: (S, listOf svs3.toArray ns3) :: (Fh, listOf fvs3.toArray nf3) :: (I3, oI3) :: r3) (by rw [hr3]; exact (fun p hp => by simp only [List.mem_cons, List.nil_append] at hp ⊢; rcases hp with h | h | h | h | h | h | h <;> first | (simp only [h, or_true, true_or]; done) | simp [h]))
            have g3 : ∀ p ∈ r3, p.1 ≠ R ∧ p.1 ≠ S ∧ p.1 ≠ Fh ∧ p.1 ≠ I3 := by
              rw [hr3]
              exact fun p hp => ⟨(hb3 p hp).1, (hb3 p hp).2.1, (hb3 p hp).2.2, hnI3 p (.tail _ (.tail _ (.tail _ (.tail _ (.tail _ (hp))))))⟩
            have g13 : ∀ p ∈ r1, p ∈ r3 := by
              rw [hr1, hr3]
              exact fun p hp => List.mem_append.mpr (.inr (.tail _ (List.mem_append.mpr (.inr (.tail _ hp)))))
            have ham3 : (a9, listOf vs.toArray na) ∈ r3 := g13 _ (by rw [hr1]; exact ham)
            have hG3 : (G, listOf gvs.toArray gn) ∈ r3 := g13 _ (by rw [hr1]; exact List.mem_append.mpr (.inr (.tail _ (.head _))))
            have hm2 : (I2, oI2) ∈ r3 := by rw [hr3]; exact List.mem_append.mpr (.inr (.head _))
            have hm1 : (I1, oI1) ∈ r3 := by rw [hr3]; exact List.mem_append.mpr (.inr (.tail _ (List.mem_append.mpr (.inr (.head _)))))
            have hrk1 : RowK w.params r1 vs ks := by rw [hr1]; exact hrk
            have hsv3r : ∀ v ∈ svs3, ∃ ks, StIn w.params r3 v ks := fun v hv => by
              obtain ⟨ks, st⟩ := hsv3 v hv
              exact ⟨ks, st.mono (by rw [hr3]; exact (fun p hp => by simp only [List.mem_cons, List.mem_append, List.nil_append, List.cons_append] at hp ⊢; rcases hp with h | h | h <;> first | (simp only [h, or_true, true_or]; done) | simp [h]))⟩
            have hid : i + 1 ≤ 5 := by omega
            have hic : ((i + 1 : Nat) : Int) < cost := by omega
            have hvl50 : vs.length ≤ 8 := by omega
            have hsl9 : svs3.length ≤ 100000 := by omega
            have hfl9 : fvs3.length ≤ 100000 := by omega
            have hkk : ∀ k ∈ ks, Kd k := hreach.kd hk1
            have hd8 : ((d : Nat) : Int) < 8 := by omega
            generalize hPQ : TurnEnd _ _ _ _ _ _ _ = PQ
            have fin : ∀ (h' : Heap) (tk' : Nat) (m' : Str → Option Value) (rvs' : List Value) (nr' : Nat) (svs' : List Value) (ns' : Nat) (fvs' : List Value) (nf' : Nat) (addn : List (Addr × Obj)), Fr g' L' h' m' → News g' L' h' ((R, listOf rvs'.toArray nr') :: (x, instObj 184 dx) :: (dx, dictOf [⟨PyData.keyHash w.params (Str.ofString "_headers"), .str (Str.ofString "_headers") kt, .ref R⟩] 1) :: (S, listOf svs'.toArray ns') :: (Fh, listOf fvs'.toArray nf') :: (I3, oI3) :: (addn ++ r3)) → (∀ p ∈ [(Str.ofString "state", Value.ref a9), (Str.ofString "border", Value.ref Bd1), (Str.ofString "fresh", Value.ref Fh), (Str.ofString "row", Value.ref R), (Str.ofString "table", Value.ref x), (Str.ofString "goal", Value.ref G), (Str.ofString "seen", Value.ref S), (Str.ofString "start", Value.ref St), (Str.ofString "cost", Value.int cost tc)], m' p.1 = some p.2) → rvs'.length ≤ 50 → (∀ p ∈ addn, p.1 ≠ R ∧ p.1 ≠ S ∧ p.1 ≠ Fh ∧ p.1 ≠ I3 ∧ p.1 ≠ I2 ∧ p.1 ≠ I1) → ((svs' = svs3 ∧ fvs' = fvs3) ∨ ∃ v ks', svs' = svs3 ++ [v] ∧ fvs' = fvs3 ++ [v] ∧ StIn w.params (addn ++ r1) v ks' ∧ Reach ks1 (i + 1) ks') → PQ .next { s with heap := h', toks := tk' } := by
              clear hret hns
              intro h' tk' m' rvs' nr' svs' ns' fvs' nf' addn F N K hl hadd hc
              have hsubS : ∀ p ∈ add3 ++ (add2 ++ (add1 ++ ((St, listOf svs0.toArray sn) :: (G, listOf gvs.toArray gn) :: (l1, listOf vs1.toArray n1) :: (l2, listOf vs2.toArray n2) :: rest))), p ∈ (addn ++ add3) ++ (add2 ++ (add1 ++ ((St, listOf svs0.toArray sn) :: (G, listOf gvs.toArray gn) :: (l1, listOf vs1.toArray n1) :: (l2, listOf vs2.toArray n2) :: rest))) := (fun p hp => by simp only [List.mem_cons, List.mem_append, List.nil_append, List.cons_append] at hp ⊢; rcases hp with h | h | h | h | h | h <;> first | (simp only [h, or_true, true_or]; done) | simp [h])
              have hsubT : ∀ p ∈ addn ++ (add1 ++ ((St, listOf svs0.toArray sn) :: (G, listOf gvs.toArray gn) :: (l1, listOf vs1.toArray n1) :: (l2, listOf vs2.toArray n2) :: rest)), p ∈ (addn ++ add3) ++ (add2 ++ (add1 ++ ((St, listOf svs0.toArray sn) :: (G, listOf gvs.toArray gn) :: (l1, listOf vs1.toArray n1) :: (l2, listOf vs2.toArray n2) :: rest))) := (fun p hp => by simp only [List.mem_cons, List.mem_append, List.nil_append, List.cons_append] at hp ⊢; rcases hp with h | h | h | h | h | h <;> first | (simp only [h, or_true, true_or]; done) | simp [h])
              subst hPQ hr3 hr1
              refine TurnEnd.next F N (nx := (R, listOf rvs'.toArray nr') :: (x, instObj 184 dx) :: (dx, dictOf [⟨PyData.keyHash w.params (Str.ofString "_headers"), .str (Str.ofString "_headers") kt, .ref R⟩] 1) :: (S, listOf svs'.toArray ns') :: (Fh, listOf fvs'.toArray nf') :: ((addn ++ add3) ++ ((I2, oI2) :: (add2 ++ ((I1, oI1) :: (add1 ++ ((St, listOf svs0.toArray sn) :: (G, listOf gvs.toArray gn) :: (l1, listOf vs1.toArray n1) :: (l2, listOf vs2.toArray n2) :: rest))))))) sub_turn ?_ ?_
              · intro p hp
                rcases List.mem_cons.mp hp with rfl | hp
                · exact hI3R
                rcases List.mem_cons.mp hp with rfl | hp
                · exact hI3x
                rcases List.mem_cons.mp hp with rfl | hp
                · exact hI3d
                rcases List.mem_cons.mp hp with rfl | hp
                · exact hI3S
                rcases List.mem_cons.mp hp with rfl | hp
                · exact hI3F
                rw [List.append_assoc] at hp
                rcases List.mem_append.mp hp with hp | hp
                · exact (hadd p hp).2.2.2.1
                · exact hnI3 p (.tail _ (.tail _ (.tail _ (.tail _ (.tail _ (hp))))))
              · have hsS : ∀ v ∈ svs3, ∃ ks, StIn w.params ((addn ++ add3) ++ (add2 ++ (add1 ++ ((St, listOf svs0.toArray sn) :: (G, listOf gvs.toArray gn) :: (l1, listOf vs1.toArray n1) :: (l2, listOf vs2.toArray n2) :: rest)))) v ks := fun v hv => by
                  obtain ⟨ks, st⟩ := hsv3 v hv
                  exact ⟨ks, st.mono hsubS⟩
                have hsF : ∀ v ∈ fvs3, ∃ ks, StIn w.params ((addn ++ add3) ++ (add2 ++ (add1 ++ ((St, listOf svs0.toArray sn) :: (G, listOf gvs.toArray gn) :: (l1, listOf vs1.toArray n1) :: (l2, listOf vs2.toArray n2) :: rest)))) v ks ∧ Reach ks1 (i + 1) ks := fun v hv => by
                  obtain ⟨ks, st, hr⟩ := hfv3 v hv
                  exact ⟨ks, st.mono hsubS, hr⟩
                have hA : ∀ p ∈ addn ++ add3, p.1 ≠ R ∧ p.1 ≠ S ∧ p.1 ≠ Fh ∧ ∀ q ∈ [I2, I1], p.1 ≠ q := by
                  intro p hp
                  rcases List.mem_append.mp hp with hp | hp
                  · obtain ⟨e1, e2, e3, _, e4, e5⟩ := hadd p hp
                    exact ⟨e1, e2, e3, List.forall_mem_cons.mpr ⟨e4, List.forall_mem_cons.mpr ⟨e5, fun _ hq => nomatch hq⟩⟩⟩
                  · exact hadd3 p hp
                rcases hc with ⟨rfl, rfl⟩ | ⟨v9, ks', rfl, rfl, st9, hr9⟩
                · exact ⟨rvs', nr', svs', ns', fvs', nf', addn ++ add3, rfl, K, hl, hsS, by omega, hsF, by omega, hA⟩
                · refine ⟨rvs', nr', svs3 ++ [v9], ns', fvs3 ++ [v9], nf', addn ++ add3, rfl, K, hl, ?_, by rw [List.length_append, List.length_singleton]; omega, ?_, by rw [List.length_append, List.length_singleton]; omega, hA⟩
                  · intro v hv
                    rcases List.mem_append.mp hv with hv | hv
                    · exact hsS v hv
                    · rw [List.mem_singleton.mp hv]; exact ⟨ks', st9.mono hsubT⟩
                  · intro v hv
                    rcases List.mem_append.mp hv with hv | hv
                    · exact hsF v hv
                    · rw [List.mem_singleton.mp hv]; exact ⟨ks', st9.mono hsubT, hr9⟩
            have hxR : @Ne Nat x R := by omega
            have hdR : @Ne Nat dx R := by omega
            have hoR : ∀ p ∈ (S, listOf svs3.toArray ns3) :: (Fh, listOf fvs3.toArray nf3) :: (I3, oI3) :: r3, p.1 ≠ R := List.forall_mem_cons.mpr ⟨hRS.symm, List.forall_mem_cons.mpr ⟨hFR.symm, List.forall_mem_cons.mpr ⟨hI3R.symm, fun p hp => (g3 p hp).1⟩⟩⟩
            have hoR2 : ∀ p ∈ (x, instObj 184 dx) :: (dx, dictOf [⟨PyData.keyHash w.params (Str.ofString "_headers"), .str (Str.ofString "_headers") kt, .ref R⟩] 1) :: (S, listOf svs3.toArray ns3) :: (Fh, listOf fvs3.toArray nf3) :: (I3, oI3) :: r3, p.1 ≠ R := List.forall_mem_cons.mpr ⟨hxR, List.forall_mem_cons.mpr ⟨hdR, hoR⟩⟩
            have hsr3 : ∀ p ∈ r1, p ∈ (S, listOf svs3.toArray ns3) :: (Fh, listOf fvs3.toArray nf3) :: (I3, oI3) :: r3 := fun p hp => .tail _ (.tail _ (.tail _ (g13 p hp)))
            have hD3 : (a9, listOf vs.toArray na) ∈ (x, instObj 184 dx) :: (dx, dictOf [⟨PyData.keyHash w.params (Str.ofString "_headers"), .str (Str.ofString "_headers") kt, .ref R⟩] 1) :: (S, listOf svs3.toArray ns3) :: (Fh, listOf fvs3.toArray nf3) :: (I3, oI3) :: r3 := .tail _ (.tail _ (.tail _ (.tail _ (.tail _ (ham3)))))
            clear F8 N8 F7 NE2 FE2 F6a hsv3 hfv3 hadd3 hb3 hb2 hnI3 hnI2 hb1 hbv hPQ hr1 hr3 hadd2 hfv2 hsv2 hK3 hK2 hrk ham hsv hadd1 hoI1' hK hBd hfl3 hsl3 hnI1 stSt fR fS hv F4a hI1R hI1S hI2R hI2S hI2F
            exact by
              refine wpAny_assign_Name ?_
              k_steps
              all_goals (refine stop_of ?_)
              all_goals (rename News g' _ _ _ => NE)
              all_goals (rename Fr g' _ _ _ => FE)
              · exact by
                  refine' set_spec (rest := _) ?q1 FE ?q3 NE ?q5 ?q6 ?q7 ?q8 ?hz ?hrow ?hoff ?_
                  (case q1 => k_asm)
                  (case q3 => k_asm)
                  (case q5 => k_asm)
                  (case q6 => first | exact rfl | assumption)
                  (case q7 => ktr_room)
                  (case q8 => ktr_units)
                  (case hz => omega)
                  (case hrow => exact hrk1.at X' hsr3)
                  (case hoff => exact hoR)
                  intro vs9 nl9 add9 h9 tk9 F9 N9 hoff9 R9 A9
                  dsimp only
                  k_fold
                  k_steps
                  refine stop_of ?_
                  exact by
                    have R92 : RowTo add9 vs vs9 ks (dstep ks d) := by rw [dstep_set (by assumption)]; exact R9
                    have N92 : News g' L' _ ((R, listOf vs9.toArray nl9) :: (x, instObj 184 dx) :: (dx, dictOf [⟨PyData.keyHash w.params (Str.ofString "_headers"), .str (Str.ofString "_headers") kt, .ref R⟩] 1) :: (add9 ++ ((S, listOf svs3.toArray ns3) :: (Fh, listOf fvs3.toArray nf3) :: (I3, oI3) :: r3))) := N9
                    clear R9 N9
                    obtain ⟨ad9, R93, N93, A93⟩ : ∃ ad9 : List (Addr × Obj), RowTo ad9 vs vs9 ks (dstep ks d) ∧ News g' L' _ ((R, listOf vs9.toArray nl9) :: (x, instObj 184 dx) :: (dx, dictOf [⟨PyData.keyHash w.params (Str.ofString "_headers"), .str (Str.ofString "_headers") kt, .ref R⟩] 1) :: (ad9 ++ ((S, listOf svs3.toArray ns3) :: (Fh, listOf fvs3.toArray nf3) :: (I3, oI3) :: r3))) ∧ ∀ p ∈ ad9, ∃ k ty tz n, p.2 = tupO k ty tz n := ⟨_, R92, N92, fun p hp => by obtain ⟨ty, tz, n, e⟩ := A9 p hp; exact ⟨_, ty, tz, n, e⟩⟩
                    have N94 := news_sub N93 (news' := (R, listOf vs9.toArray nl9) :: (x, instObj 184 dx) :: (dx, dictOf [⟨PyData.keyHash w.params (Str.ofString "_headers"), .str (Str.ofString "_headers") kt, .ref R⟩] 1) :: (S, listOf svs3.toArray ns3) :: (Fh, listOf fvs3.toArray nf3) :: (I3, oI3) :: (ad9 ++ r3)) sub_deed
                    have tn : ∀ p ∈ ad9, ∀ q ∈ (S, listOf svs3.toArray ns3) :: (Fh, listOf fvs3.toArray nf3) :: (I3, oI3) :: (ad9 ++ r3), q.2.cls ≠ .type "tuple" → p.1 ≠ q.1 := by
                      intro p hp q hq hc
                      obtain ⟨k9, ty, tz, n, e⟩ := A93 p hp
                      exact tup_ne (k := k9) (a := p.1) (o := p.2) (b := q.1) (o' := q.2) N94 (.tail _ (.tail _ (.tail _ (.tail _ (.tail _ (.tail _ (List.mem_append.mpr (.inl hp)))))))) (.tail _ (.tail _ (.tail _ (hq)))) ⟨ty, tz, n, e⟩ hc
                    have tR : ∀ p ∈ ad9, p.1 ≠ R := by
                      intro p hp
                      obtain ⟨k9, ty, tz, n, e⟩ := A93 p hp
                      exact tup_ne (k := k9) (a := p.1) (o := p.2) N94 (.tail _ (.tail _ (.tail _ (.tail _ (.tail _ (.tail _ (List.mem_append.mpr (.inl hp)))))))) (.head _) ⟨ty, tz, n, e⟩ (by simp)
                    have gnw : ∀ p ∈ ad9, p.1 ≠ R ∧ p.1 ≠ S ∧ p.1 ≠ Fh ∧ p.1 ≠ I3 ∧ p.1 ≠ I2 ∧ p.1 ≠ I1 := fun p hp =>
                      ⟨tR p hp, tn p hp (S, listOf svs3.toArray ns3) (.head _) (by simp), tn p hp (Fh, listOf fvs3.toArray nf3) (.tail _ (.head _)) (by simp), tn p hp (I3, oI3) (.tail _ (.tail _ (.head _))) hoI3,
                        tn p hp (I2, oI2) (.tail _ (.tail _ (.tail _ (List.mem_append.mpr (.inr hm2))))) hoI2, tn p hp (I1, oI1) (.tail _ (.tail _ (.tail _ (List.mem_append.mpr (.inr hm1))))) hoI1⟩
                    have hrow4 : RowK w.params (ad9 ++ r1) vs9 (dstep ks d) := hrk1.to R93
                    obtain ⟨r4, hr4⟩ : ∃ r, r = ad9 ++ r3 := ⟨_, rfl⟩
                    have N95 := N94
                    rw [← hr4] at N95
                    have g4 : ∀ p ∈ r4, p.1 ≠ R ∧ p.1 ≠ S ∧ p.1 ≠ Fh ∧ p.1 ≠ I3 := by
                      rw [hr4]
                      exact fun p hp => (List.mem_append.mp hp).elim (fun q => ⟨(gnw p q).1, (gnw p q).2.1, (gnw p q).2.2.1, (gnw p q).2.2.2.1⟩) (g3 p)
                    have h14 : ∀ p ∈ ad9 ++ r1, p ∈ r4 := by
                      rw [hr4]
                      exact fun p hp => (List.mem_append.mp hp).elim (fun q => List.mem_append.mpr (.inl q)) (fun q => List.mem_append.mpr (.inr (g13 p q)))
                    have h34 : ∀ p ∈ r3, p ∈ r4 := fun p hp => by rw [hr4]; exact List.mem_append.mpr (.inr hp)
                    have hG4 : (G, listOf gvs.toArray gn) ∈ r4 := h34 _ hG3
                    have g4S : ∀ p ∈ r4, p.1 ≠ S := fun p hp => (g4 p hp).2.1
                    have g4F : ∀ p ∈ r4, p.1 ≠ Fh := fun p hp => (g4 p hp).2.2.1
                    have hvl9 : vs9.length ≤ 50 := by
                      have e1 := (hrow4.at X' (nX := ad9 ++ r1) (fun p hp => hp)).length
                      have e2 := (hrk1.at X' (nX := r1) (fun p hp => hp)).length
                      have e3 := dstep_len (r := ks) (d := d)
                      omega
                    have hre9 := hreach.step d (by omega)
                    have hkd9 : ∀ k ∈ dstep ks d, Kd k := dstep_kd (by omega) hkk
                    have hne9 : decide (dstep ks d = ks2) = false := decide_eq_false (hns (i + 1) _ hre9 (Nat.succ_pos _) hic)
                    clear N92 R92 R93 N93 N94 hoff9 A9
                    k_steps
                    refine stop_of ?_
                    rename Fr g' _ _ _ => FE8
                    rename News g' _ _ _ => NE8
                    rename (∀ p : Addr × Obj, p ∈ _ → p.1 < _) => lD
                    rename_i D9 hz1 tz1 hz2
                    exact by
                      refine' rows_eq FE8 NE8 (.head _) ?eb (hrow4.at X' ?es) (hgr.at0 X') hkd9 hk2 ?eu ?_
                      (case eb => exact .tail _ (.tail _ (.tail _ (.tail _ (.tail _ (.tail _ (.tail _ (hG4))))))))
                      (case es => exact fun p hp => .tail _ (.tail _ (.tail _ (.tail _ (.tail _ (.tail _ (.tail _ (h14 p hp))))))))
                      (case eu => ktr_units)
                      rw [hne9]
                      (try dsimp only)
                      k_steps
                      refine stop_of ?_
                      rename Fr g' _ _ _ => FE7
                      rename News g' _ _ _ => NE7
                      have hDa : ∀ p ∈ (R, listOf vs9.toArray nl9) :: (x, instObj 184 dx) :: (dx, dictOf [⟨PyData.keyHash w.params (Str.ofString "_headers"), .str (Str.ofString "_headers") kt, .ref R⟩] 1) :: (S, listOf svs3.toArray ns3) :: (Fh, listOf fvs3.toArray nf3) :: (I3, oI3) :: r4, p.1 < D9 := lD
                      have hDR : @Ne Nat D9 R := neN (Ne.symm (Nat.ne_of_lt (hDa _ (.head _))))
                      have hDS : @Ne Nat D9 S := neN (Ne.symm (Nat.ne_of_lt (hDa (S, listOf svs3.toArray ns3) (.tail _ (.tail _ (.tail _ (.head _)))))))
                      have hDF : @Ne Nat D9 Fh := neN (Ne.symm (Nat.ne_of_lt (hDa (Fh, listOf fvs3.toArray nf3) (.tail _ (.tail _ (.tail _ (.tail _ (.head _))))))))
                      have hDI : D9 ≠ I3 := Ne.symm (Nat.ne_of_lt (hDa (I3, oI3) (.tail _ (.tail _ (.tail _ (.tail _ (.tail _ (.head _))))))))
                      have hD2 : D9 ≠ I2 := Ne.symm (Nat.ne_of_lt (hDa (I2, oI2) (.tail _ (.tail _ (.tail _ (.tail _ (.tail _ (.tail _ (h34 _ hm2)))))))))
                      have hD1 : D9 ≠ I1 := Ne.symm (Nat.ne_of_lt (hDa (I1, oI1) (.tail _ (.tail _ (.tail _ (.tail _ (.tail _ (.tail _ (h34 _ hm1)))))))))
                      have hadn : ∀ p ∈ (D9, listOf vs9.toArray 0) :: ad9, p.1 ≠ R ∧ p.1 ≠ S ∧ p.1 ≠ Fh ∧ p.1 ≠ I3 ∧ p.1 ≠ I2 ∧ p.1 ≠ I1 := List.forall_mem_cons.mpr ⟨⟨hDR, hDS, hDF, hDI, hD2, hD1⟩, gnw⟩
                      have stD : StIn w.params ((D9, listOf vs9.toArray 0) :: r4) (.ref D9) (dstep ks d) := ⟨D9, vs9, 0, rfl, .head _, hrow4.mono (fun p hp => .tail _ (h14 p hp))⟩
                      have stN : StIn w.params (((D9, listOf vs9.toArray 0) :: ad9) ++ r1) (.ref D9) (dstep ks d) := ⟨D9, vs9, 0, rfl, .head _, hrow4.mono (fun p hp => .tail _ hp)⟩
                      have hsv4 : ∀ v ∈ svs3, ∃ ks, StIn w.params ((D9, listOf vs9.toArray 0) :: r4) v ks := fun v hv => by
                        obtain ⟨ks, st⟩ := hsv3r v hv
                        exact ⟨ks, st.mono (fun p hp => .tail _ (h34 p hp))⟩
                      clear lD hDa
                      exact by
                        refine' notin_seen (add := (D9, listOf vs9.toArray 0) :: r4) FE7 NE7 X' ?es ?eS stD ?ev ?eu ?_
                        (case es => exact fun p hp => (List.mem_cons.mp hp).elim (fun e => e ▸ .head _) (fun q => .tail _ (.tail _ (.tail _ (.tail _ (.tail _ (.tail _ (.tail _ (q)))))))))
                        (case eS => exact .tail _ (.tail _ (.tail _ (.tail _ (.head _)))))
                        (case ev => exact hsv4)
                        (case eu => ktr_units)
                        intro b
                        cases b
                        · (try dsimp only)
                          k_steps
                          rename Fr g' _ _ _ => FE6
                          rename News g' _ _ _ => NE6
                          rw [hr4] at NE6
                          refine fin _ _ _ vs9 nl9 svs3 ns3 fvs3 nf3 ((D9, listOf vs9.toArray 0) :: ad9) FE6 (news_sub NE6 sub_told) ?_ hvl9 hadn (.inl ⟨rfl, rfl⟩)
                          intro p hp
                          simp only [List.mem_cons, List.not_mem_nil, or_false] at hp
                          rcases hp with rfl | rfl | rfl | rfl | rfl | rfl | rfl | rfl | rfl
                          · exact rfl
                          · exact rfl
                          · exact rfl
                          · exact rfl
                          · exact rfl
                          · exact rfl
                          · exact rfl
                          · exact rfl
                          · exact rfl
                        · (try dsimp only)
                          k_steps
                          rename Fr g' _ _ _ => FE6
                          rename News g' _ _ _ => NE6
                          simp only [List.push_toArray] at NE6
                          rw [hr4] at NE6
                          refine fin _ _ _ vs9 nl9 (svs3 ++ [.ref D9]) _ (fvs3 ++ [.ref D9]) _ ((D9, listOf vs9.toArray 0) :: ad9) FE6 (news_sub NE6 sub_told) ?_ hvl9 hadn (.inr ⟨.ref D9, dstep ks d, rfl, rfl, stN, hre9⟩)
                          intro p hp
                          simp only [List.mem_cons, List.not_mem_nil, or_false] at hp
                          rcases hp with rfl | rfl | rfl | rfl | rfl | rfl | rfl | rfl | rfl
                          · exact rfl
                          · exact rfl
                          · exact rfl
                          · exact rfl
                          · exact rfl
                          · exact rfl
                          · exact rfl
                          · exact rfl
                          · exact rfl
              · exact by
                  refine' add_spec (rest := _) ?q1 FE ?q3 NE ?q5 ?q6 ?q7 ?q8 ?hz ?hrow ?hoff ?_
                  (case q1 => k_asm)
                  (case q3 => k_asm)
                  (case q5 => k_asm)
                  (case q6 => first | exact rfl | assumption)
                  (case q7 => ktr_room)
                  (case q8 => ktr_units)
                  (case hz => omega)
                  (case hrow => exact hrk1.at X' hsr3)
                  (case hoff => exact hoR)
                  intro vs9 nl9 add9 h9 tk9 F9 N9 hoff9 R9 A9
                  dsimp only
                  k_fold
                  k_steps
                  refine stop_of ?_
                  exact by
                    have R92 : RowTo add9 vs vs9 ks (dstep ks d) := by rw [dstep_add (by assumption) (by assumption)]; exact R9
                    have N92 : News g' L' _ ((R, listOf vs9.toArray nl9) :: (x, instObj 184 dx) :: (dx, dictOf [⟨PyData.keyHash w.params (Str.ofString "_headers"), .str (Str.ofString "_headers") kt, .ref R⟩] 1) :: (add9 ++ ((S, listOf svs3.toArray ns3) :: (Fh, listOf fvs3.toArray nf3) :: (I3, oI3) :: r3))) := N9
                    clear R9 N9
                    obtain ⟨ad9, R93, N93, A93⟩ : ∃ ad9 : List (Addr × Obj), RowTo ad9 vs vs9 ks (dstep ks d) ∧ News g' L' _ ((R, listOf vs9.toArray nl9) :: (x, instObj 184 dx) :: (dx, dictOf [⟨PyData.keyHash w.params (Str.ofString "_headers"), .str (Str.ofString "_headers") kt, .ref R⟩] 1) :: (ad9 ++ ((S, listOf svs3.toArray ns3) :: (Fh, listOf fvs3.toArray nf3) :: (I3, oI3) :: r3))) ∧ ∀ p ∈ ad9, ∃ k ty tz n, p.2 = tupO k ty tz n := ⟨_, R92, N92, fun p hp => by obtain ⟨ty, tz, n, e⟩ := A9 p hp; exact ⟨_, ty, tz, n, e⟩⟩
                    have N94 := news_sub N93 (news' := (R, listOf vs9.toArray nl9) :: (x, instObj 184 dx) :: (dx, dictOf [⟨PyData.keyHash w.params (Str.ofString "_headers"), .str (Str.ofString "_headers") kt, .ref R⟩] 1) :: (S, listOf svs3.toArray ns3) :: (Fh, listOf fvs3.toArray nf3) :: (I3, oI3) :: (ad9 ++ r3)) sub_deed
                    have tn : ∀ p ∈ ad9, ∀ q ∈ (S, listOf svs3.toArray ns3) :: (Fh, listOf fvs3.toArray nf3) :: (I3, oI3) :: (ad9 ++ r3), q.2.cls ≠ .type "tuple" → p.1 ≠ q.1 := by
                      intro p hp q hq hc
                      obtain ⟨k9, ty, tz, n, e⟩ := A93 p hp
                      exact tup_ne (k := k9) (a := p.1) (o := p.2) (b := q.1) (o' := q.2) N94 (.tail _ (.tail _ (.tail _ (.tail _ (.tail _ (.tail _ (List.mem_append.mpr (.inl hp)))))))) (.tail _ (.tail _ (.tail _ (hq)))) ⟨ty, tz, n, e⟩ hc
                    have tR : ∀ p ∈ ad9, p.1 ≠ R := by
                      intro p hp
                      obtain ⟨k9, ty, tz, n, e⟩ := A93 p hp
                      exact tup_ne (k := k9) (a := p.1) (o := p.2) N94 (.tail _ (.tail _ (.tail _ (.tail _ (.tail _ (.tail _ (List.mem_append.mpr (.inl hp)))))))) (.head _) ⟨ty, tz, n, e⟩ (by simp)
                    have gnw : ∀ p ∈ ad9, p.1 ≠ R ∧ p.1 ≠ S ∧ p.1 ≠ Fh ∧ p.1 ≠ I3 ∧ p.1 ≠ I2 ∧ p.1 ≠ I1 := fun p hp =>
                      ⟨tR p hp, tn p hp (S, listOf svs3.toArray ns3) (.head _) (by simp), tn p hp (Fh, listOf fvs3.toArray nf3) (.tail _ (.head _)) (by simp), tn p hp (I3, oI3) (.tail _ (.tail _ (.head _))) hoI3,
                        tn p hp (I2, oI2) (.tail _ (.tail _ (.tail _ (List.mem_append.mpr (.inr hm2))))) hoI2, tn p hp (I1, oI1) (.tail _ (.tail _ (.tail _ (List.mem_append.mpr (.inr hm1))))) hoI1⟩
                    have hrow4 : RowK w.params (ad9 ++ r1) vs9 (dstep ks d) := hrk1.to R93
                    obtain ⟨r4, hr4⟩ : ∃ r, r = ad9 ++ r3 := ⟨_, rfl⟩
                    have N95 := N94
                    rw [← hr4] at N95
                    have g4 : ∀ p ∈ r4, p.1 ≠ R ∧ p.1 ≠ S ∧ p.1 ≠ Fh ∧ p.1 ≠ I3 := by
                      rw [hr4]
                      exact fun p hp => (List.mem_append.mp hp).elim (fun q => ⟨(gnw p q).1, (gnw p q).2.1, (gnw p q).2.2.1, (gnw p q).2.2.2.1⟩) (g3 p)
                    have h14 : ∀ p ∈ ad9 ++ r1, p ∈ r4 := by
                      rw [hr4]
                      exact fun p hp => (List.mem_append.mp hp).elim (fun q => List.mem_append.mpr (.inl q)) (fun q => List.mem_append.mpr (.inr (g13 p q)))
                    have h34 : ∀ p ∈ r3, p ∈ r4 := fun p hp => by rw [hr4]; exact List.mem_append.mpr (.inr hp)
                    have hG4 : (G, listOf gvs.toArray gn) ∈ r4 := h34 _ hG3
                    have g4S : ∀ p ∈ r4, p.1 ≠ S := fun p hp => (g4 p hp).2.1
                    have g4F : ∀ p ∈ r4, p.1 ≠ Fh := fun p hp => (g4 p hp).2.2.1
                    have hvl9 : vs9.length ≤ 50 := by
                      have e1 := (hrow4.at X' (nX := ad9 ++ r1) (fun p hp => hp)).length
                      have e2 := (hrk1.at X' (nX := r1) (fun p hp => hp)).length
                      have e3 := dstep_len (r := ks) (d := d)
                      omega
                    have hre9 := hreach.step d (by omega)
                    have hkd9 : ∀ k ∈ dstep ks d, Kd k := dstep_kd (by omega) hkk
                    have hne9 : decide (dstep ks d = ks2) = false := decide_eq_false (hns (i + 1) _ hre9 (Nat.succ_pos _) hic)
                    clear N92 R92 R93 N93 N94 hoff9 A9
                    k_steps
                    refine stop_of ?_
                    rename Fr g' _ _ _ => FE8
                    rename News g' _ _ _ => NE8
                    rename (∀ p : Addr × Obj, p ∈ _ → p.1 < _) => lD
                    rename_i D9 hz1 tz1 hz2
                    exact by
                      refine' rows_eq FE8 NE8 (.head _) ?eb (hrow4.at X' ?es) (hgr.at0 X') hkd9 hk2 ?eu ?_
                      (case eb => exact .tail _ (.tail _ (.tail _ (.tail _ (.tail _ (.tail _ (.tail _ (hG4))))))))
                      (case es => exact fun p hp => .tail _ (.tail _ (.tail _ (.tail _ (.tail _ (.tail _ (.tail _ (h14 p hp))))))))
                      (case eu => ktr_units)
                      rw [hne9]
                      (try dsimp only)
                      k_steps
                      refine stop_of ?_
                      rename Fr g' _ _ _ => FE7
                      rename News g' _ _ _ => NE7
                      have hDa : ∀ p ∈ (R, listOf vs9.toArray nl9) :: (x, instObj 184 dx) :: (dx, dictOf [⟨PyData.keyHash w.params (Str.ofString "_headers"), .str (Str.ofString "_headers") kt, .ref R⟩] 1) :: (S, listOf svs3.toArray ns3) :: (Fh, listOf fvs3.toArray nf3) :: (I3, oI3) :: r4, p.1 < D9 := lD
                      have hDR : @Ne Nat D9 R := neN (Ne.symm (Nat.ne_of_lt (hDa _ (.head _))))
                      have hDS : @Ne Nat D9 S := neN (Ne.symm (Nat.ne_of_lt (hDa (S, listOf svs3.toArray ns3) (.tail _ (.tail _ (.tail _ (.head _)))))))
                      have hDF : @Ne Nat D9 Fh := neN (Ne.symm (Nat.ne_of_lt (hDa (Fh, listOf fvs3.toArray nf3) (.tail _ (.tail _ (.tail _ (.tail _ (.head _))))))))
                      have hDI : D9 ≠ I3 := Ne.symm (Nat.ne_of_lt (hDa (I3, oI3) (.tail _ (.tail _ (.tail _ (.tail _ (.tail _ (.head _))))))))
                      have hD2 : D9 ≠ I2 := Ne.symm (Nat.ne_of_lt (hDa (I2, oI2) (.tail _ (.tail _ (.tail _ (.tail _ (.tail _ (.tail _ (h34 _ hm2)))))))))
                      have hD1 : D9 ≠ I1 := Ne.symm (Nat.ne_of_lt (hDa (I1, oI1) (.tail _ (.tail _ (.tail _ (.tail _ (.tail _ (.tail _ (h34 _ hm1)))))))))
                      have hadn : ∀ p ∈ (D9, listOf vs9.toArray 0) :: ad9, p.1 ≠ R ∧ p.1 ≠ S ∧ p.1 ≠ Fh ∧ p.1 ≠ I3 ∧ p.1 ≠ I2 ∧ p.1 ≠ I1 := List.forall_mem_cons.mpr ⟨⟨hDR, hDS, hDF, hDI, hD2, hD1⟩, gnw⟩
                      have stD : StIn w.params ((D9, listOf vs9.toArray 0) :: r4) (.ref D9) (dstep ks d) := ⟨D9, vs9, 0, rfl, .head _, hrow4.mono (fun p hp => .tail _ (h14 p hp))⟩
                      have stN : StIn w.params (((D9, listOf vs9.toArray 0) :: ad9) ++ r1) (.ref D9) (dstep ks d) := ⟨D9, vs9, 0, rfl, .head _, hrow4.mono (fun p hp => .tail _ hp)⟩
                      have hsv4 : ∀ v ∈ svs3, ∃ ks, StIn w.params ((D9, listOf vs9.toArray 0) :: r4) v ks := fun v hv => by
                        obtain ⟨ks, st⟩ := hsv3r v hv
                        exact ⟨ks, st.mono (fun p hp => .tail _ (h34 p hp))⟩
                      clear lD hDa
                      exact by
                        refine' notin_seen (add := (D9, listOf vs9.toArray 0) :: r4) FE7 NE7 X' ?es ?eS stD ?ev ?eu ?_
                        (case es => exact fun p hp => (List.mem_cons.mp hp).elim (fun e => e ▸ .head _) (fun q => .tail _ (.tail _ (.tail _ (.tail _ (.tail _ (.tail _ (.tail _ (q)))))))))
                        (case eS => exact .tail _ (.tail _ (.tail _ (.tail _ (.head _)))))
                        (case ev => exact hsv4)
                        (case eu => ktr_units)
                        intro b
                        cases b
                        · (try dsimp only)
                          k_steps
                          rename Fr g' _ _ _ => FE6
                          rename News g' _ _ _ => NE6
                          rw [hr4] at NE6
                          refine fin _ _ _ vs9 nl9 svs3 ns3 fvs3 nf3 ((D9, listOf vs9.toArray 0) :: ad9) FE6 (news_sub NE6 sub_told) ?_ hvl9 hadn (.inl ⟨rfl, rfl⟩)
                          intro p hp
                          simp only [List.mem_cons, List.not_mem_nil, or_false] at hp
                          rcases hp with rfl | rfl | rfl | rfl | rfl | rfl | rfl | rfl | rfl
                          · exact rfl
                          · exact rfl
                          · exact rfl
                          · exact rfl
                          · exact rfl
                          · exact rfl
                          · exact rfl
                          · exact rfl
                          · exact rfl
                        · (try dsimp only)
                          k_steps
                          rename Fr g' _ _ _ => FE6
                          rename News g' _ _ _ => NE6
                          simp only [List.push_toArray] at NE6
                          rw [hr4] at NE6
                          refine fin _ _ _ vs9 nl9 (svs3 ++ [.ref D9]) _ (fvs3 ++ [.ref D9]) _ ((D9, listOf vs9.toArray 0) :: ad9) FE6 (news_sub NE6 sub_told) ?_ hvl9 hadn (.inr ⟨.ref D9, dstep ks d, rfl, rfl, stN, hre9⟩)
                          intro p hp
                          simp only [List.mem_cons, List.not_mem_nil, or_false] at hp
                          rcases hp with rfl | rfl | rfl | rfl | rfl | rfl | rfl | rfl | rfl
                          · exact rfl
                          · exact rfl
                          · exact rfl
                          · exact rfl
                          · exact rfl
                          · exact rfl
                          · exact rfl
                          · exact rfl
                          · exact rfl
              · exact by
                  refine' del_spec (rest := _) ?q1 FE ?q3 NE ?q5 ?q6 ?q7 ?q8 ?hz ?hy ?hc ?hc0 ?hc3 ?hrow ?hoff ?_
                  (case q1 => k_asm)
                  (case q3 => k_asm)
                  (case q5 => k_asm)
                  (case q6 => first | exact rfl | assumption)
                  (case q7 => ktr_room)
                  (case q8 => ktr_units)
                  (case hz => omega)
                  (case hy => exact oth_mem _)
                  (case hc => exact low_oth (by omega) (by omega))
                  (case hc0 => omega)
                  (case hc3 => omega)
                  (case hrow => exact hrk1.at X' hsr3)
                  (case hoff => exact hoR)
                  intro vs9 nl9 h9 tk9 F9 N9 R9
                  dsimp only
                  k_fold
                  k_steps
                  refine stop_of ?_
                  exact by
                    have R92 : RowTo [] vs vs9 ks (dstep ks d) := by rw [dstep_del (by assumption) (by assumption)]; exact R9
                    have N92 : News g' L' _ ((R, listOf vs9.toArray nl9) :: (x, instObj 184 dx) :: (dx, dictOf [⟨PyData.keyHash w.params (Str.ofString "_headers"), .str (Str.ofString "_headers") kt, .ref R⟩] 1) :: ([] ++ ((S, listOf svs3.toArray ns3) :: (Fh, listOf fvs3.toArray nf3) :: (I3, oI3) :: r3))) := N9
                    clear R9 N9
                    obtain ⟨ad9, R93, N93, A93⟩ : ∃ ad9 : List (Addr × Obj), RowTo ad9 vs vs9 ks (dstep ks d) ∧ News g' L' _ ((R, listOf vs9.toArray nl9) :: (x, instObj 184 dx) :: (dx, dictOf [⟨PyData.keyHash w.params (Str.ofString "_headers"), .str (Str.ofString "_headers") kt, .ref R⟩] 1) :: (ad9 ++ ((S, listOf svs3.toArray ns3) :: (Fh, listOf fvs3.toArray nf3) :: (I3, oI3) :: r3))) ∧ ∀ p ∈ ad9, ∃ k ty tz n, p.2 = tupO k ty tz n := ⟨_, R92, N92, fun _ hp => nomatch hp⟩
                    have N94 := news_sub N93 (news' := (R, listOf vs9.toArray nl9) :: (x, instObj 184 dx) :: (dx, dictOf [⟨PyData.keyHash w.params (Str.ofString "_headers"), .str (Str.ofString "_headers") kt, .ref R⟩] 1) :: (S, listOf svs3.toArray ns3) :: (Fh, listOf fvs3.toArray nf3) :: (I3, oI3) :: (ad9 ++ r3)) sub_deed
                    have tn : ∀ p ∈ ad9, ∀ q ∈ (S, listOf svs3.toArray ns3) :: (Fh, listOf fvs3.toArray nf3) :: (I3, oI3) :: (ad9 ++ r3), q.2.cls ≠ .type "tuple" → p.1 ≠ q.1 := by
                      intro p hp q hq hc
                      obtain ⟨k9, ty, tz, n, e⟩ := A93 p hp
                      exact tup_ne (k := k9) (a := p.1) (o := p.2) (b := q.1) (o' := q.2) N94 (.tail _ (.tail _ (.tail _ (.tail _ (.tail _ (.tail _ (List.mem_append.mpr (.inl hp)))))))) (.tail _ (.tail _ (.tail _ (hq)))) ⟨ty, tz, n, e⟩ hc
                    have tR : ∀ p ∈ ad9, p.1 ≠ R := by
                      intro p hp
                      obtain ⟨k9, ty, tz, n, e⟩ := A93 p hp
                      exact tup_ne (k := k9) (a := p.1) (o := p.2) N94 (.tail _ (.tail _ (.tail _ (.tail _ (.tail _ (.tail _ (List.mem_append.mpr (.inl hp)))))))) (.head _) ⟨ty, tz, n, e⟩ (by simp)
                    have gnw : ∀ p ∈ ad9, p.1 ≠ R ∧ p.1 ≠ S ∧ p.1 ≠ Fh ∧ p.1 ≠ I3 ∧ p.1 ≠ I2 ∧ p.1 ≠ I1 := fun p hp =>
                      ⟨tR p hp, tn p hp (S, listOf svs3.toArray ns3) (.head _) (by simp), tn p hp (Fh, listOf fvs3.toArray nf3) (.tail _ (.head _)) (by simp), tn p hp (I3, oI3) (.tail _ (.tail _ (.head _))) hoI3,
                        tn p hp (I2, oI2) (.tail _ (.tail _ (.tail _ (List.mem_append.mpr (.inr hm2))))) hoI2, tn p hp (I1, oI1) (.tail _ (.tail _ (.tail _ (List.mem_append.mpr (.inr hm1))))) hoI1⟩
                    have hrow4 : RowK w.params (ad9 ++ r1) vs9 (dstep ks d) := hrk1.to R93
                    obtain ⟨r4, hr4⟩ : ∃ r, r = ad9 ++ r3 := ⟨_, rfl⟩
                    have N95 := N94
                    rw [← hr4] at N95
                    have g4 : ∀ p ∈ r4, p.1 ≠ R ∧ p.1 ≠ S ∧ p.1 ≠ Fh ∧ p.1 ≠ I3 := by
                      rw [hr4]
                      exact fun p hp => (List.mem_append.mp hp).elim (fun q => ⟨(gnw p q).1, (gnw p q).2.1, (gnw p q).2.2.1, (gnw p q).2.2.2.1⟩) (g3 p)
                    have h14 : ∀ p ∈ ad9 ++ r1, p ∈ r4 := by
                      rw [hr4]
                      exact fun p hp => (List.mem_append.mp hp).elim (fun q => List.mem_append.mpr (.inl q)) (fun q => List.mem_append.mpr (.inr (g13 p q)))
                    have h34 : ∀ p ∈ r3, p ∈ r4 := fun p hp => by rw [hr4]; exact List.mem_append.mpr (.inr hp)
                    have hG4 : (G, listOf gvs.toArray gn) ∈ r4 := h34 _ hG3
                    have g4S : ∀ p ∈ r4, p.1 ≠ S := fun p hp => (g4 p hp).2.1
                    have g4F : ∀ p ∈ r4, p.1 ≠ Fh := fun p hp => (g4 p hp).2.2.1
                    have hvl9 : vs9.length ≤ 50 := by
                      have e1 := (hrow4.at X' (nX := ad9 ++ r1) (fun p hp => hp)).length
                      have e2 := (hrk1.at X' (nX := r1) (fun p hp => hp)).length
                      have e3 := dstep_len (r := ks) (d := d)
                      omega
                    have hre9 := hreach.step d (by omega)
                    have hkd9 : ∀ k ∈ dstep ks d, Kd k := dstep_kd (by omega) hkk
                    have hne9 : decide (dstep ks d = ks2) = false := decide_eq_false (hns (i + 1) _ hre9 (Nat.succ_pos _) hic)
                    clear N92 R92 R93 N93 N94
                    k_steps
                    refine stop_of ?_
                    rename Fr g' _ _ _ => FE8
                    rename News g' _ _ _ => NE8
                    rename (∀ p : Addr × Obj, p ∈ _ → p.1 < _) => lD
                    rename_i D9 hz1 tz1 hz2
                    exact by
                      refine' rows_eq FE8 NE8 (.head _) ?eb (hrow4.at X' ?es) (hgr.at0 X') hkd9 hk2 ?eu ?_
                      (case eb => exact .tail _ (.tail _ (.tail _ (.tail _ (.tail _ (.tail _ (.tail _ (hG4))))))))
                      (case es => exact fun p hp => .tail _ (.tail _ (.tail _ (.tail _ (.tail _ (.tail _ (.tail _ (h14 p hp))))))))
                      (case eu => ktr_units)
                      rw [hne9]
                      (try dsimp only)
                      k_steps
                      refine stop_of ?_
                      rename Fr g' _ _ _ => FE7
                      rename News g' _ _ _ => NE7
                      have hDa : ∀ p ∈ (R, listOf vs9.toArray nl9) :: (x, instObj 184 dx) :: (dx, dictOf [⟨PyData.keyHash w.params (Str.ofString "_headers"), .str (Str.ofString "_headers") kt, .ref R⟩] 1) :: (S, listOf svs3.toArray ns3) :: (Fh, listOf fvs3.toArray nf3) :: (I3, oI3) :: r4, p.1 < D9 := lD
                      have hDR : @Ne Nat D9 R := neN (Ne.symm (Nat.ne_of_lt (hDa _ (.head _))))
                      have hDS : @Ne Nat D9 S := neN (Ne.symm (Nat.ne_of_lt (hDa (S, listOf svs3.toArray ns3) (.tail _ (.tail _ (.tail _ (.head _)))))))
                      have hDF : @Ne Nat D9 Fh := neN (Ne.symm (Nat.ne_of_lt (hDa (Fh, listOf fvs3.toArray nf3) (.tail _ (.tail _ (.tail _ (.tail _ (.head _))))))))
                      have hDI : D9 ≠ I3 := Ne.symm (Nat.ne_of_lt (hDa (I3, oI3) (.tail _ (.tail _ (.tail _ (.tail _ (.tail _ (.head _))))))))
                      have hD2 : D9 ≠ I2 := Ne.symm (Nat.ne_of_lt (hDa (I2, oI2) (.tail _ (.tail _ (.tail _ (.tail _ (.tail _ (.tail _ (h34 _ hm2)))))))))
                      have hD1 : D9 ≠ I1 := Ne.symm (Nat.ne_of_lt (hDa (I1, oI1) (.tail _ (.tail _ (.tail _ (.tail _ (.tail _ (.tail _ (h34 _ hm1)))))))))
                      have hadn : ∀ p ∈ (D9, listOf vs9.toArray 0) :: ad9, p.1 ≠ R ∧ p.1 ≠ S ∧ p.1 ≠ Fh ∧ p.1 ≠ I3 ∧ p.1 ≠ I2 ∧ p.1 ≠ I1 := List.forall_mem_cons.mpr ⟨⟨hDR, hDS, hDF, hDI, hD2, hD1⟩, gnw⟩
                      have stD : StIn w.params ((D9, listOf vs9.toArray 0) :: r4) (.ref D9) (dstep ks d) := ⟨D9, vs9, 0, rfl, .head _, hrow4.mono (fun p hp => .tail _ (h14 p hp))⟩
                      have stN : StIn w.params (((D9, listOf vs9.toArray 0) :: ad9) ++ r1) (.ref D9) (dstep ks d) := ⟨D9, vs9, 0, rfl, .head _, hrow4.mono (fun p hp => .tail _ hp)⟩
                      have hsv4 : ∀ v ∈ svs3, ∃ ks, StIn w.params ((D9, listOf vs9.toArray 0) :: r4) v ks := fun v hv => by
                        obtain ⟨ks, st⟩ := hsv3r v hv
                        exact ⟨ks, st.mono (fun p hp => .tail _ (h34 p hp))⟩
                      clear lD hDa
                      exact by
                        refine' notin_seen (add := (D9, listOf vs9.toArray 0) :: r4) FE7 NE7 X' ?es ?eS stD ?ev ?eu ?_
                        (case es => exact fun p hp => (List.mem_cons.mp hp).elim (fun e => e ▸ .head _) (fun q => .tail _ (.tail _ (.tail _ (.tail _ (.tail _ (.tail _ (.tail _ (q)))))))))
                        (case eS => exact .tail _ (.tail _ (.tail _ (.tail _ (.head _)))))
                        (case ev => exact hsv4)
                        (case eu => ktr_units)
                        intro b
                        cases b
                        · (try dsimp only)
                          k_steps
                          rename Fr g' _ _ _ => FE6
                          rename News g' _ _ _ => NE6
                          rw [hr4] at NE6
                          refine fin _ _ _ vs9 nl9 svs3 ns3 fvs3 nf3 ((D9, listOf vs9.toArray 0) :: ad9) FE6 (news_sub NE6 sub_told) ?_ hvl9 hadn (.inl ⟨rfl, rfl⟩)
                          intro p hp
                          simp only [List.mem_cons, List.not_mem_nil, or_false] at hp
                          rcases hp with rfl | rfl | rfl | rfl | rfl | rfl | rfl | rfl | rfl
                          · exact rfl
                          · exact rfl
                          · exact rfl
                          · exact rfl
                          · exact rfl
                          · exact rfl
                          · exact rfl
                          · exact rfl
                          · exact rfl
                        · (try dsimp only)
                          k_steps
                          rename Fr g' _ _ _ => FE6
                          rename News g' _ _ _ => NE6
                          simp only [List.push_toArray] at NE6
                          rw [hr4] at NE6
                          refine fin _ _ _ vs9 nl9 (svs3 ++ [.ref D9]) _ (fvs3 ++ [.ref D9]) _ ((D9, listOf vs9.toArray 0) :: ad9) FE6 (news_sub NE6 sub_told) ?_ hvl9 hadn (.inr ⟨.ref D9, dstep ks d, rfl, rfl, stN, hre9⟩)
                          intro p hp
                          simp only [List.mem_cons, List.not_mem_nil, or_false] at hp
                          rcases hp with rfl | rfl | rfl | rfl | rfl | rfl | rfl | rfl | rfl
                          · exact rfl
                          · exact rfl
                          · exact rfl
                          · exact rfl
                          · exact rfl
                          · exact rfl
                          · exact rfl
                          · exact rfl
                          · exact rfl
          · rintro h7 tk7 m₃ nx F8 N8 ⟨rvs3, nr3, svs3, ns3, fvs3, nf3, add3, rfl, hK3, hrl3, hsv3, hsl3, hfv3, hfl3, hadd3⟩
            clear F7 NE2 FE2 F6a
            (try dsimp only)
            k_steps
            refine TurnEnd.next F8 N8 (nx := (R, listOf rvs3.toArray nr3) :: (x, instObj 184 dx) :: (dx, dictOf [⟨PyData.keyHash w.params (Str.ofString "_headers"), .str (Str.ofString "_headers") kt, .ref R⟩] 1) :: (S, listOf svs3.toArray ns3) :: (Fh, listOf fvs3.toArray nf3) :: ((add3 ++ add2) ++ ((I1, oI1) :: (add1 ++ ((St, listOf svs0.toArray sn) :: (G, listOf gvs.toArray gn) :: (l1, listOf vs1.toArray n1) :: (l2, listOf vs2.toArray n2) :: rest))))) (fun p hp => by simp only [List.mem_cons, List.mem_append, List.nil_append, List.cons_append] at hp ⊢; rcases hp with h | h | h | h | h | h | (h | h) | h | h | h | h | h | h | h <;> first | (simp only [h, or_true, true_or]; done) | simp [h]) ?_ ?_
            · intro p hp
              rcases List.mem_cons.mp hp with rfl | hp
              · exact hI2R
              rcases List.mem_cons.mp hp with rfl | hp
              · exact hnI2 _ (.tail _ (.head _))
              rcases List.mem_cons.mp hp with rfl | hp
              · exact hnI2 _ (.tail _ (.tail _ (.head _)))
              rcases List.mem_cons.mp hp with rfl | hp
              · exact hI2S
              rcases List.mem_cons.mp hp with rfl | hp
              · exact hI2F
              rcases List.mem_append.mp hp with hp | hp
              · rcases List.mem_append.mp hp with hp | hp
                · exact (hadd3 p hp).2.2.2 I2 (.head _)
                · exact hnI2 p (.tail _ (.tail _ (.tail _ (.tail _ (.tail _ (List.mem_append.mpr (.inl hp)))))))
              · exact hnI2 p (.tail _ (.tail _ (.tail _ (.tail _ (.tail _ (List.mem_append.mpr (.inr hp)))))))
            · refine ⟨rvs3, nr3, svs3, ns3, fvs3, nf3, add3 ++ add2, rfl, fun p hp => hK3 p (.tail _ hp), hrl3, ?_, by omega, ?_, by omega, ?_⟩
              · rw [List.append_assoc]; exact hsv3
              · rw [List.append_assoc]; exact hfv3
              · intro p hp
                rcases List.mem_append.mp hp with hp | hp
                · exact ⟨(hadd3 p hp).1, (hadd3 p hp).2.1, (hadd3 p hp).2.2.1, fun q hq => (hadd3 p hp).2.2.2 q (.tail _ hq)⟩
                · exact hadd2 p hp
      · rintro h6 tk6 m₄ nx F9 N9 ⟨rvs4, nr4, svs4, ns4, fvs4, nf4, add4, rfl, hK4, hrl4, hsv4, hsl4, hfv4, hfl4, hadd4⟩
        obtain ⟨fk0, qk0⟩ := fr_cons F9 rfl (show m₄ (Str.ofString "border") = some (.ref Bd1) from hK4 _ (.head _))
        obtain ⟨fk1, qk1⟩ := fr_cons fk0 qk0 (show m₄ (Str.ofString "fresh") = some (.ref Fh) from hK4 _ (.tail _ (.head _)))
        obtain ⟨fk2, qk2⟩ := fr_cons fk1 qk1 (show m₄ (Str.ofString "row") = some (.ref R) from hK4 _ (.tail _ (.tail _ (.head _))))
        obtain ⟨fk3, qk3⟩ := fr_cons fk2 qk2 (show m₄ (Str.ofString "table") = some (.ref x) from hK4 _ (.tail _ (.tail _ (.tail _ (.head _)))))
        obtain ⟨fk4, qk4⟩ := fr_cons fk3 qk3 (show m₄ (Str.ofString "goal") = some (.ref G) from hK4 _ (.tail _ (.tail _ (.tail _ (.tail _ (.head _))))))
        obtain ⟨fk5, qk5⟩ := fr_cons fk4 qk4 (show m₄ (Str.ofString "seen") = some (.ref S) from hK4 _ (.tail _ (.tail _ (.tail _ (.tail _ (.tail _ (.head _)))))))
        obtain ⟨fk6, qk6⟩ := fr_cons fk5 qk5 (show m₄ (Str.ofString "start") = some (.ref St) from hK4 _ (.tail _ (.tail _ (.tail _ (.tail _ (.tail _ (.tail _ (.head _))))))))
        obtain ⟨fk7, qk7⟩ := fr_cons fk6 qk6 (show m₄ (Str.ofString "cost") = some (.int cost tc) from hK4 _ (.tail _ (.tail _ (.tail _ (.tail _ (.tail _ (.tail _ (.tail _ (.head _)))))))))
        have F9a := fk7
        clear fk0 fk1 fk2 fk3 fk4 fk5 fk6 fk7 qk7 qk6 qk5 qk4 qk3 qk2 qk1 qk0
        clear F9 F5 N5 FE NE
        (try dsimp only)
        k_steps
        rename News g' _ _ _ => NE2
        rename Fr g' _ _ _ => FE2
        obtain ⟨mm2, F7, u0, u1, u2, u3, u4, u5, u6⟩ : ∃ (mm : Str → Option Value), Fr g' _ _ mm ∧ mm (Str.ofString "border") = some (.ref Fh) ∧ mm (Str.ofString "row") = some (.ref R) ∧ mm (Str.ofString "table") = some (.ref x) ∧ mm (Str.ofString "goal") = some (.ref G) ∧ mm (Str.ofString "seen") = some (.ref S) ∧ mm (Str.ofString "start") = some (.ref St) ∧ mm (Str.ofString "cost") = some (.int cost tc) := ⟨_, FE2, rfl, rfl, rfl, rfl, rfl, rfl, rfl⟩
        refine TurnEnd.next F7 NE2 (nx := (R, listOf rvs4.toArray nr4) :: (x, instObj 184 dx) :: (dx, dictOf [⟨PyData.keyHash w.params (Str.ofString "_headers"), .str (Str.ofString "_headers") kt, .ref R⟩] 1) :: (S, listOf svs4.toArray ns4) :: (((Fh, listOf fvs4.toArray nf4) :: (add4 ++ add1)) ++ ((St, listOf svs0.toArray sn) :: (G, listOf gvs.toArray gn) :: (l1, listOf vs1.toArray n1) :: (l2, listOf vs2.toArray n2) :: rest))) (fun p hp => by simp only [List.mem_cons, List.mem_append, List.nil_append, List.cons_append] at hp ⊢; rcases hp with h | h | h | h | h | h | (h | h) | h | h | h | h | h <;> first | (simp only [h, or_true, true_or]; done) | simp [h]) ?_ ?_
        · intro p hp
          rcases List.mem_cons.mp hp with rfl | hp
          · exact hI1R
          rcases List.mem_cons.mp hp with rfl | hp
          · exact hnI1 _ (.tail _ (.head _))
          rcases List.mem_cons.mp hp with rfl | hp
          · exact hnI1 _ (.tail _ (.tail _ (.head _)))
          rcases List.mem_cons.mp hp with rfl | hp
          · exact hI1S
          rcases List.mem_cons.mp hp with rfl | hp
          · exact (Nat.ne_of_lt haF.1).symm
          rcases List.mem_append.mp hp with hp | hp
          · rcases List.mem_append.mp hp with hp | hp
            · exact (hadd4 p hp).2.2.2 I1 (.head _)
            · exact hoI1' p (List.mem_append.mpr (.inl hp))
          · exact hoI1' p (List.mem_append.mpr (.inr hp))
        · have hsubO : ∀ p ∈ add4 ++ (add1 ++ ((St, listOf svs0.toArray sn) :: (G, listOf gvs.toArray gn) :: (l1, listOf vs1.toArray n1) :: (l2, listOf vs2.toArray n2) :: rest)), p ∈ ((Fh, listOf fvs4.toArray nf4) :: (add4 ++ add1)) ++ ((St, listOf svs0.toArray sn) :: (G, listOf gvs.toArray gn) :: (l1, listOf vs1.toArray n1) :: (l2, listOf vs2.toArray n2) :: rest) := (fun p hp => by simp only [List.mem_cons, List.mem_append, List.nil_append, List.cons_append] at hp ⊢; rcases hp with h | h | h | h | h | h | h <;> first | (simp only [h, or_true, true_or]; done) | simp [h])
          refine ⟨rvs4, nr4, svs4, ns4, (Fh, listOf fvs4.toArray nf4) :: (add4 ++ add1), Fh, fvs4, nf4, rfl, ?_, hrl4, .head _, ?_, by rw [Nat.pow_succ]; omega, ?_, by rw [Nat.pow_succ]; omega, ?_⟩
          · intro p hp
            simp only [List.mem_cons, List.not_mem_nil, or_false] at hp
            rcases hp with rfl | rfl | rfl | rfl | rfl | rfl | rfl
            · exact u0
            · exact u1
            · exact u2
            · exact u3
            · exact u4
            · exact u5
            · exact u6

          · intro v hv
            obtain ⟨ks, st⟩ := hsv4 v hv
            exact ⟨ks, st.mono hsubO⟩
          · intro v hv
            obtain ⟨ks, st, hr⟩ := hfv4 v hv
            exact ⟨ks, st.mono hsubO, hr⟩
          · intro p hp
            rcases List.mem_cons.mp hp with rfl | hp
            · exact ⟨hFR.symm, hFS.symm⟩
            rcases List.mem_append.mp hp with hp | hp
            · exact ⟨(hadd4 p hp).1, (hadd4 p hp).2.1⟩
            · exact hadd1 p hp
  · rintro h3 tk3 m₁ nx F4 N4 ⟨rvs, nr, svs, ns, add1, Bd1, bvs, nb, rfl, hK, hrl, hBd, hsv, hsl, hbv, hbl, hadd1⟩
    obtain ⟨fk0, qk0⟩ := fr_cons F4 rfl (show m₁ (Str.ofString "border") = some (.ref Bd1) from hK _ (.head _))
    obtain ⟨fk1, qk1⟩ := fr_cons fk0 qk0 (show m₁ (Str.ofString "row") = some (.ref R) from hK _ (.tail _ (.head _)))
    obtain ⟨fk2, qk2⟩ := fr_cons fk1 qk1 (show m₁ (Str.ofString "table") = some (.ref x) from hK _ (.tail _ (.tail _ (.head _))))
    obtain ⟨fk3, qk3⟩ := fr_cons fk2 qk2 (show m₁ (Str.ofString "goal") = some (.ref G) from hK _ (.tail _ (.tail _ (.tail _ (.head _)))))
    obtain ⟨fk4, qk4⟩ := fr_cons fk3 qk3 (show m₁ (Str.ofString "seen") = some (.ref S) from hK _ (.tail _ (.tail _ (.tail _ (.tail _ (.head _))))))
    obtain ⟨fk5, qk5⟩ := fr_cons fk4 qk4 (show m₁ (Str.ofString "start") = some (.ref St) from hK _ (.tail _ (.tail _ (.tail _ (.tail _ (.tail _ (.head _)))))))
    obtain ⟨fk6, qk6⟩ := fr_cons fk5 qk5 (show m₁ (Str.ofString "cost") = some (.int cost tc) from hK _ (.tail _ (.tail _ (.tail _ (.tail _ (.tail _ (.tail _ (.head _))))))))
    have F4a := fk6
    clear fk0 fk1 fk2 fk3 fk4 fk5 fk6 qk6 qk5 qk4 qk3 qk2 qk1 qk0
    have hStm : (St, listOf svs0.toArray sn) ∈ add1 ++ ((St, listOf svs0.toArray sn) :: (G, listOf gvs.toArray gn) :: (l1, listOf vs1.toArray n1) :: (l2, listOf vs2.toArray n2) :: rest) := List.mem_append.mpr (.inr (.head _))
    have hGm : (G, listOf gvs.toArray gn) ∈ add1 ++ ((St, listOf svs0.toArray sn) :: (G, listOf gvs.toArray gn) :: (l1, listOf vs1.toArray n1) :: (l2, listOf vs2.toArray n2) :: rest) := List.mem_append.mpr (.inr (.tail _ (.head _)))
    have N4a : News g' L' _ ((R, listOf rvs.toArray nr) :: (x, instObj 184 dx) :: (dx, dictOf [⟨PyData.keyHash w.params (Str.ofString "_headers"), .str (Str.ofString "_headers") kt, .ref R⟩] 1) :: (S, listOf svs.toArray ns) :: (add1 ++ ((St, listOf svs0.toArray sn) :: (G, listOf gvs.toArray gn) :: (l1, listOf vs1.toArray n1) :: (l2, listOf vs2.toArray n2) :: rest))) := N4
    clear F4 N4 F3 N3 FE NE hR hns
    exact by
      (try dsimp only)
      k_steps
      refine stop_of ?_
      rename Fr g' _ _ _ => FE2
      rename News g' _ _ _ => NE2
      refine' rows_eq FE2 NE2 ?ea ?eb (hsr.at0 X') (hgr.at0 X') hk1 hk2 ?eu ?_
      (case ea => exact .tail _ (.tail _ (.tail _ (.tail _ (hStm)))))
      (case eb => exact .tail _ (.tail _ (.tail _ (.tail _ (hGm)))))
      (case eu => ktr_units)
      exact by
        (try dsimp only)
        k_steps
        rename News h₀ L _ _ => NZ
        exact hret _ _ (by assumption) (news_sub NZ (fun p hp => .tail _ (.tail _ (.tail _ (.tail _ (List.mem_append.mpr (.inr (.tail _ (.tail _ hp)))))))))
end Mine
namespace Mine

def kbit (i : Nat) (c : Int) : Bool := Builtin.bitAnd ((i : Int).fdiv (2 ^ c.toNat)) 1 == 1
def zbit (i : Nat) (c : Int) : Bool := Builtin.bitAnd ((i : Int).fdiv (2 ^ c.toNat)) 1 == 0
theorem r3 : rangeInts 0 1 3 = [0, 1, 2] := by decide +kernel
theorem mem3 {c : Int} : c ∈ rangeInts 0 1 3 ↔ (c = 0 ∨ c = 1 ∨ c = 2) := by
  rw [r3]; simp
theorem zbit_eq {i : Nat} (hi : i < 8) {c : Int} (hc : c ∈ rangeInts 0 1 3) : zbit i c = !kbit i c := by
  have h : i = 0 ∨ i = 1 ∨ i = 2 ∨ i = 3 ∨ i = 4 ∨ i = 5 ∨ i = 6 ∨ i = 7 := by omega
  rcases mem3.mp hc with rfl | rfl | rfl <;> rcases h with rfl | rfl | rfl | rfl | rfl | rfl | rfl | rfl <;> decide +kernel
theorem kbit_any (f : Int → Bool) : ∃ i, i < 8 ∧ ∀ c ∈ rangeInts 0 1 3, kbit i c = f c := by
  have h : ∀ a b d : Bool, ∃ i, i < 8 ∧ kbit i 0 = a ∧ kbit i 1 = b ∧ kbit i 2 = d := by
    intro a b d
    cases a <;> cases b <;> cases d
    · exact ⟨0, by decide, by decide +kernel, by decide +kernel, by decide +kernel⟩
    · exact ⟨4, by decide, by decide +kernel, by decide +kernel, by decide +kernel⟩
    · exact ⟨2, by decide, by decide +kernel, by decide +kernel, by decide +kernel⟩
    · exact ⟨6, by decide, by decide +kernel, by decide +kernel, by decide +kernel⟩
    · exact ⟨1, by decide, by decide +kernel, by decide +kernel, by decide +kernel⟩
    · exact ⟨5, by decide, by decide +kernel, by decide +kernel, by decide +kernel⟩
    · exact ⟨3, by decide, by decide +kernel, by decide +kernel, by decide +kernel⟩
    · exact ⟨7, by decide, by decide +kernel, by decide +kernel, by decide +kernel⟩
  obtain ⟨i, hi, h0, h1, h2⟩ := h (f 0) (f 1) (f 2)
  refine ⟨i, hi, fun c hc => ?_⟩
  rcases mem3.mp hc with rfl | rfl | rfl
  · exact h0
  · exact h1
  · exact h2
theorem ofk_mem3 {k : Int} : ofk k ∈ rangeInts 0 1 3 := by
  rw [mem3]; have := ofk_lo k; have := ofk_hi k; omega
theorem kept_eq (ks1 : List Int) (i : Nat) : keptOf ks1 i = ks1.filter (fun a => kbit i (ofk a)) := rfl
def inC (l : List Int) (c : Int) : Bool := (l.map fun k => ofk k).any (· == c)
theorem inC_iff {l : List Int} {c : Int} : inC l c = true ↔ ∃ k ∈ l, ofk k = c := by
  unfold inC
  simp [List.any_eq_true]
theorem lost_eq (ks1 ks2 : List Int) (i : Nat) : lostOf ks1 ks2 i = (rangeInts 0 1 3).filter (fun c => zbit i c && (inC ks1 c && !inC (ks2.drop (keptOf ks1 i).length) c)) := rfl
theorem few_best (ks1 ks2 : List Int) : ∀ n, (∀ b, few ks1 ks2 n = some b → (∃ i, i < n ∧ few1 ks1 ks2 i = some b) ∧ ∀ j b', j < n → few1 ks1 ks2 j = some b' → b.1 ≤ b'.1) ∧ (few ks1 ks2 n = none → ∀ j, j < n → few1 ks1 ks2 j = none)
  | 0 => ⟨fun b h => (nomatch h), fun _ j h => absurd h (Nat.not_lt_zero _)⟩
  | n + 1 => by
    obtain ⟨ih1, ih2⟩ := few_best ks1 ks2 n
    have e : few ks1 ks2 (n + 1) = better (few ks1 ks2 n) (few1 ks1 ks2 n) := rfl
    rw [e]
    cases h1 : few ks1 ks2 n with
    | none =>
      have hn := ih2 h1
      cases h2 : few1 ks1 ks2 n with
      | none =>
        refine ⟨fun b h => (nomatch h), fun _ j hj => ?_⟩
        rcases Nat.lt_succ_iff_lt_or_eq.mp hj with q | rfl
        · exact hn j q
        · exact h2
      | some c =>
        refine ⟨fun b h => ?_, fun h => (nomatch h)⟩
        simp only [better, Option.some.injEq] at h
        subst h
        refine ⟨⟨n, Nat.lt_succ_self n, h2⟩, fun j b' hj hb' => ?_⟩
        rcases Nat.lt_succ_iff_lt_or_eq.mp hj with q | rfl
        · rw [hn j q] at hb'; cases hb'
        · rw [h2] at hb'; cases hb'; exact Int.le_refl _
    | some b0 =>
      obtain ⟨⟨i0, hi0, hf0⟩, hmin⟩ := ih1 b0 h1
      cases h2 : few1 ks1 ks2 n with
      | none =>
        refine ⟨fun b h => ?_, fun h => (nomatch h)⟩
        simp only [better, Option.some.injEq] at h
        subst h
        refine ⟨⟨i0, Nat.lt_succ_of_lt hi0, hf0⟩, fun j b' hj hb' => ?_⟩
        rcases Nat.lt_succ_iff_lt_or_eq.mp hj with q | rfl
        · exact hmin j b' q hb'
        · rw [h2] at hb'; cases hb'
      | some c =>
        refine ⟨fun b h => ?_, fun h => ?_⟩
        · simp only [better] at h
          split at h
          · rename_i hlt
            cases h
            refine ⟨⟨n, Nat.lt_succ_self n, h2⟩, fun j b' hj hb' => ?_⟩
            rcases Nat.lt_succ_iff_lt_or_eq.mp hj with q | rfl
            · have := hmin j b' q hb'; omega
            · rw [h2] at hb'; cases hb'; exact Int.le_refl _
          · rename_i hlt
            cases h
            refine ⟨⟨i0, Nat.lt_succ_of_lt hi0, hf0⟩, fun j b' hj hb' => ?_⟩
            rcases Nat.lt_succ_iff_lt_or_eq.mp hj with q | rfl
            · exact hmin j b' q hb'
            · rw [h2] at hb'; cases hb'; omega
        · simp only [better] at h
          split at h <;> cases h
theorem few_is {ks1 ks2 : List Int} {c mk k : Int} {ls : List Int} (h : few ks1 ks2 8 = some (c, mk, k, ls)) : ∃ i : Nat, i < 8 ∧ mk = (i : Int) ∧ k = ((keptOf ks1 i).length : Int) ∧ ls = lostOf ks1 ks2 i ∧ c = ((ks2.drop (keptOf ks1 i).length).length : Int) + ((lostOf ks1 ks2 i).length : Int) ∧ ks2.take (keptOf ks1 i).length = keptOf ks1 i := by
  obtain ⟨⟨i, hi, hf⟩, _⟩ := (few_best ks1 ks2 8).1 _ h
  unfold few1 at hf
  split at hf
  · rename_i ht
    injection hf with hf
    injection hf with e1 hf
    injection hf with e2 hf
    injection hf with e3 e4
    exact ⟨i, hi, e2.symm, e3.symm, e4.symm, e1.symm, ht⟩
  · cases hf
theorem few_min {ks1 ks2 : List Int} {c mk k : Int} {ls : List Int} (h : few ks1 ks2 8 = some (c, mk, k, ls)) {j : Nat} (hj : j < 8) (ht : ks2.take (keptOf ks1 j).length = keptOf ks1 j) : c ≤ ((ks2.drop (keptOf ks1 j).length).length : Int) + ((lostOf ks1 ks2 j).length : Int) :=
  ((few_best ks1 ks2 8).1 _ h).2 j _ hj (by unfold few1; exact if_pos ht)
theorem lost_mem {ks1 ks2 : List Int} {i : Nat} {c : Int} : c ∈ lostOf ks1 ks2 i ↔ c ∈ rangeInts 0 1 3 ∧ zbit i c = true ∧ inC ks1 c = true ∧ inC (ks2.drop (keptOf ks1 i).length) c = false := by
  rw [lost_eq, List.mem_filter]
  simp only [Bool.and_eq_true, Bool.not_eq_true']
theorem few_rng {ks1 ks2 : List Int} {c mk k : Int} {ls : List Int} (h : few ks1 ks2 8 = some (c, mk, k, ls)) : (∀ c ∈ ls, 0 ≤ c ∧ c < 3) ∧ 0 ≤ k ∧ 0 ≤ c ∧ c ≤ ks2.length + 3 := by
  obtain ⟨i, hi, rfl, rfl, rfl, rfl, ht⟩ := few_is h
  have h3 : (lostOf ks1 ks2 i).length ≤ 3 := List.length_filter_le _ _
  refine ⟨fun c hc => ?_, by omega, by omega, ?_⟩
  · rcases mem3.mp (lost_mem.mp hc).1 with rfl | rfl | rfl <;> decide
  · rw [List.length_drop]; omega
theorem any_iff {l : List Int} {c : Int} : (l.any fun y => y == c) = true ↔ c ∈ l := ⟨any_mem, fun h => List.any_eq_true.mpr ⟨c, h, by simp⟩⟩
theorem delAll_eq (ls : List Int) : ∀ ks : List Int, delAll ks ls = ks.filter (fun k => !ls.any (· == ofk k)) := by
  induction ls with
  | nil => intro ks; exact (List.filter_eq_self.mpr fun _ _ => rfl).symm
  | cons c ls ih =>
    intro ks
    show delAll (ks.filter fun k => ofk k != c) ls = _
    rw [ih, List.filter_filter]
    refine List.filter_congr fun k _ => ?_
    rw [List.any_cons, Bool.not_or]
    by_cases e : c = ofk k
    · subst e; simp
    · have e1 : (c == ofk k) = false := beq_eq_false_iff_ne.mpr e
      have e2 : (ofk k != c) = true := bne_iff_ne.mpr (Ne.symm e)
      rw [e1, e2, Bool.and_true]; rfl
theorem car_fold : ∀ (tl r t w : List Int), w.Nodup → (∀ k ∈ t, ofk k ∉ w) → (tl.foldl carStep (r ++ t, w)).1 = r.filter (fun k => !(w.any (· == ofk k) && inC tl (ofk k))) ++ (t ++ tl)
  | [], r, t, w, _, _ => by
    have e : r.filter (fun k => !(w.any (· == ofk k) && inC [] (ofk k))) = r := List.filter_eq_self.mpr fun k _ => by simp [inC]
    rw [e, List.append_nil]; rfl
  | x :: tl, r, t, w, hw, ht => by
    rw [List.foldl_cons]
    by_cases hx : (w.any fun y => y == ofk x) = true
    · rw [car_in (p := (r ++ t, w)) hx]
      have et : t.filter (fun j => ofk j != ofk x) = t := List.filter_eq_self.mpr fun k hk => by
        have : ofk k ≠ ofk x := fun q => ht k hk (q ▸ any_mem hx)
        simpa using this
      dsimp only
      rw [List.filter_append, et, List.append_assoc, car_fold tl _ (t ++ [x]) (w.erase (ofk x)) (hw.erase _) ?_]
      · rw [List.filter_filter, List.append_assoc, List.singleton_append]
        congr 1
        refine List.filter_congr fun k _ => ?_
        by_cases e : ofk k = ofk x
        · have h1 : inC (x :: tl) (ofk k) = true := inC_iff.mpr ⟨x, .head _, e.symm⟩
          rw [h1]
          have h2 : (w.any fun y => y == ofk k) = true := by rw [e]; exact hx
          rw [h2, e]; simp
        · have h1 : inC (x :: tl) (ofk k) = inC tl (ofk k) := by
            unfold inC
            rw [List.map_cons, List.any_cons]
            have : (ofk x == ofk k) = false := by simpa using fun q => e q.symm
            rw [this, Bool.false_or]
          have h2 : ((w.erase (ofk x)).any fun y => y == ofk k) = (w.any fun y => y == ofk k) := by
            rw [Bool.eq_iff_iff]
            rw [any_iff, any_iff]
            exact List.mem_erase_of_ne e
          rw [h1, h2]
          have : (ofk k != ofk x) = true := by simpa using e
          rw [this]; simp
      · intro k hk
        rcases List.mem_append.mp hk with hk | hk
        · exact fun q => ht k hk (List.mem_of_mem_erase q)
        · rw [List.mem_singleton.mp hk]
          exact fun q => (hw.mem_erase_iff.mp q).1 rfl
    · have hx' : (w.any fun y => y == ofk x) = false := Bool.eq_false_iff.mpr hx
      rw [car_out (p := (r ++ t, w)) hx']
      dsimp only
      rw [List.append_assoc, car_fold tl _ (t ++ [x]) w hw ?_]
      · rw [List.append_assoc, List.singleton_append]
        congr 1
        refine List.filter_congr fun k _ => ?_
        by_cases e : ofk k = ofk x
        · have h2 : (w.any fun y => y == ofk k) = false := by rw [e]; exact hx'
          rw [h2]; rfl
        · have h1 : inC (x :: tl) (ofk k) = inC tl (ofk k) := by
            unfold inC
            rw [List.map_cons, List.any_cons]
            have : (ofk x == ofk k) = false := by simpa using fun q => e q.symm
            rw [this, Bool.false_or]
          rw [h1]
      · intro k hk
        rcases List.mem_append.mp hk with hk | hk
        · exact ht k hk
        · rw [List.mem_singleton.mp hk]
          exact fun q => absurd (any_iff.mpr q) (by rw [hx']; decide)
theorem few_car {ks1 ks2 : List Int} {c mk k : Int} {ls : List Int} (zh1 : ∀ k ∈ ks1, Kd k) (zh2 : ∀ k ∈ ks2, Kd k) (h : few ks1 ks2 8 = some (c, mk, k, ls)) : carK ks1 ks2 mk k ls = ks2 := by
  obtain ⟨i, hi, rfl, rfl, rfl, _, ht⟩ := few_is h
  have hw : wipedOf (i : Int) = (rangeInts 0 1 3).filter (zbit i) := rfl
  have hn : (wipedOf (i : Int)).Nodup := by
    rw [hw, r3]
    exact (List.filter_sublist).nodup (by decide)
  unfold carK
  have q := car_fold (ks2.drop (keptOf ks1 i).length) (delAll ks1 (lostOf ks1 ks2 i)) [] (wipedOf (i : Int)) hn (fun _ hk => nomatch hk)
  rw [List.append_nil, List.nil_append] at q
  rw [Int.toNat_natCast, q, delAll_eq, List.filter_filter]
  have e : (ks1.filter fun a => !((wipedOf (i : Int)).any (· == ofk a) && inC (ks2.drop (keptOf ks1 i).length) (ofk a)) && !(lostOf ks1 ks2 i).any (· == ofk a)) = keptOf ks1 i := by
    show _ = ks1.filter (fun a => kbit i (ofk a))
    refine List.filter_congr fun a ha => ?_
    have hm := ofk_mem3 (k := a)
    have hz := zbit_eq hi hm
    have hin : inC ks1 (ofk a) = true := inC_iff.mpr ⟨a, ha, rfl⟩
    have hwa : ((wipedOf (i : Int)).any fun y => y == ofk a) = !kbit i (ofk a) := by
      rw [← hz, Bool.eq_iff_iff]
      rw [any_iff, hw, List.mem_filter]
      exact ⟨fun q => q.2, fun q => ⟨hm, q⟩⟩
    have hla : ((lostOf ks1 ks2 i).any fun y => y == ofk a) = (!kbit i (ofk a) && !inC (ks2.drop (keptOf ks1 i).length) (ofk a)) := by
      rw [← hz, Bool.eq_iff_iff]
      simp only [Bool.and_eq_true, Bool.not_eq_true']
      rw [any_iff, lost_mem]
      exact ⟨fun q => ⟨q.2.1, q.2.2.2⟩, fun q => ⟨hm, q.1, hin, q.2⟩⟩
    rw [hwa, hla]
    cases kbit i (ofk a) <;> cases inC (ks2.drop (keptOf ks1 i).length) (ofk a) <;> rfl
  rw [e]
  calc keptOf ks1 i ++ ks2.drop (keptOf ks1 i).length = ks2.take (keptOf ks1 i).length ++ ks2.drop (keptOf ks1 i).length := by rw [ht]
    _ = ks2 := List.take_append_drop _ _

def lossP (ks1 : List Int) (f : Int → Bool) (t : List Int) (c : Int) : Bool := !f c && (inC ks1 c && !inC t c)
def loss (ks1 : List Int) (f : Int → Bool) (t : List Int) : Nat := (rangeInts 0 1 3).countP (lossP ks1 f t)
theorem loss_mono {ks1 : List Int} {f f' : Int → Bool} {t t' : List Int} (h : ∀ c, lossP ks1 f' t' c = true → lossP ks1 f t c = true) : loss ks1 f' t' ≤ loss ks1 f t :=
  List.countP_mono_left fun c _ => h c
theorem countP_or {p q : Int → Bool} {c0 : Int} (h : ∀ x, q x = true → p x = true ∨ x = c0) : ∀ l : List Int, l.countP q ≤ l.countP p + l.countP (· == c0)
  | [] => by simp
  | x :: l => by
    have ih := countP_or h l
    rw [List.countP_cons, List.countP_cons, List.countP_cons]
    by_cases hq : q x = true
    · rcases h x hq with hp | rfl
      · simp only [hq, hp, if_true]; omega
      · simp only [hq, beq_self_eq_true, if_true]; omega
    · simp only [hq]; simp only [if_false, Bool.false_eq_true]; omega
theorem loss_succ {ks1 : List Int} {f f' : Int → Bool} {t t' : List Int} {c0 : Int} (h : ∀ c, lossP ks1 f' t' c = true → lossP ks1 f t c = true ∨ c = c0) : loss ks1 f' t' ≤ loss ks1 f t + 1 := by
  have h1 := countP_or h (rangeInts 0 1 3)
  have h2 : (rangeInts 0 1 3).countP (· == c0) ≤ 1 := by
    rw [r3]
    by_cases e0 : (0 : Int) = c0
    · subst e0; decide
    · by_cases e1 : (1 : Int) = c0
      · subst e1; decide
      · simp only [List.countP_cons, List.countP_nil, beq_eq_false_iff_ne.mpr e0, beq_eq_false_iff_ne.mpr e1, Bool.false_eq_true, if_false]
        split <;> omega
  unfold loss
  omega
theorem inC_append {a b : List Int} {c : Int} : inC (a ++ b) c = (inC a c || inC b c) := by
  unfold inC; rw [List.map_append, List.any_append]
theorem inC_one {k c : Int} : inC [k] c = (ofk k == c) := by
  unfold inC; simp
theorem inC_filter {t : List Int} {c c0 : Int} (h : c ≠ c0) : inC (t.filter fun j => ofk j != c0) c = inC t c := by
  rw [Bool.eq_iff_iff, inC_iff, inC_iff]
  constructor
  · rintro ⟨k, hk, e⟩; exact ⟨k, (List.mem_filter.mp hk).1, e⟩
  · rintro ⟨k, hk, rfl⟩; exact ⟨k, List.mem_filter.mpr ⟨hk, by simpa using h⟩, rfl⟩
theorem reach_form {ks1 : List Int} {n : Nat} {r : List Int} (h : Reach ks1 n r) : ∃ (f : Int → Bool) (t : List Int), r = ks1.filter (fun a => f (ofk a)) ++ t ∧ t.length + loss ks1 f t ≤ n := by
  induction h with
  | zero =>
    refine ⟨fun _ => true, [], ?_, ?_⟩
    · rw [List.append_nil]; exact (List.filter_eq_self.mpr fun _ _ => rfl).symm
    · unfold loss lossP; simp
  | step d hd _ ih =>
    obtain ⟨f, t, rfl, hn⟩ := ih
    by_cases h1 : (d : Int) < 3
    · rw [dstep_set h1]
      refine ⟨fun c => f c && c != ofk (d : Int), (t.filter fun j => ofk j != ofk (d : Int)) ++ [(d : Int)], ?_, ?_⟩
      · rw [List.filter_append, List.filter_filter, List.append_assoc]
        congr 1
        exact List.filter_congr fun a _ => Bool.and_comm _ _
      · have hm : loss ks1 (fun c => f c && c != ofk (d : Int)) ((t.filter fun j => ofk j != ofk (d : Int)) ++ [(d : Int)]) ≤ loss ks1 f t := by
          refine loss_mono fun c hc => ?_
          unfold lossP at hc ⊢
          dsimp only at hc
          rw [inC_append, inC_one] at hc
          by_cases e : c = ofk (d : Int)
          · subst e; simp at hc
          · have e2 : (c != ofk (d : Int)) = true := by simpa using e
            have e3 : (ofk (d : Int) == c) = false := by simpa using fun q => e q.symm
            rw [inC_filter e, e2, e3, Bool.and_true, Bool.or_false] at hc
            exact hc
        have hl := List.length_filter_le (fun j => ofk j != ofk (d : Int)) t
        rw [List.length_append, List.length_singleton]; omega
    · by_cases h2 : (d : Int) < 6
      · rw [dstep_add h1 h2]
        refine ⟨f, t ++ [(d : Int) - 3], List.append_assoc .., ?_⟩
        have hm : loss ks1 f (t ++ [(d : Int) - 3]) ≤ loss ks1 f t := by
          refine loss_mono fun c hc => ?_
          unfold lossP at hc ⊢
          rw [inC_append] at hc
          simp only [Bool.and_eq_true, Bool.not_eq_true', Bool.or_eq_false_iff] at hc ⊢
          exact ⟨hc.1, hc.2.1, hc.2.2.1⟩
        rw [List.length_append, List.length_singleton]; omega
      · rw [dstep_del h1 h2]
        refine ⟨fun c => f c && c != (d : Int) - 6, t.filter fun j => ofk j != (d : Int) - 6, ?_, ?_⟩
        · rw [List.filter_append, List.filter_filter]
          congr 1
          exact List.filter_congr fun a _ => Bool.and_comm _ _
        · have hm : loss ks1 (fun c => f c && c != (d : Int) - 6) (t.filter fun j => ofk j != (d : Int) - 6) ≤ loss ks1 f t + 1 := by
            refine loss_succ (c0 := (d : Int) - 6) fun c hc => ?_
            by_cases e : c = (d : Int) - 6
            · exact .inr e
            · left
              unfold lossP at hc ⊢
              dsimp only at hc
              have e2 : (c != (d : Int) - 6) = true := by simpa using e
              rw [inC_filter e, e2, Bool.and_true] at hc
              exact hc
          have hl := List.length_filter_le (fun j => ofk j != (d : Int) - 6) t
          omega
theorem few_low {ks1 ks2 : List Int} {c mk k : Int} {ls : List Int} (h : few ks1 ks2 8 = some (c, mk, k, ls)) (f : Int → Bool) (t : List Int) (e : ks2 = ks1.filter (fun a => f (ofk a)) ++ t) : c ≤ (t.length : Int) + (loss ks1 f t : Int) := by
  obtain ⟨i, hi, hf⟩ := kbit_any f
  have hk : keptOf ks1 i = ks1.filter (fun a => f (ofk a)) := by
    rw [kept_eq]
    exact List.filter_congr fun a _ => hf _ ofk_mem3
  have ht : ks2.take (keptOf ks1 i).length = keptOf ks1 i := by
    rw [e, hk]; exact List.take_left' rfl
  have hd : ks2.drop (keptOf ks1 i).length = t := by
    rw [e, hk]; exact List.drop_left' rfl
  have hl : (lostOf ks1 ks2 i).length = loss ks1 f t := by
    rw [lost_eq, hd, loss, List.countP_eq_length_filter]
    congr 1
    refine List.filter_congr fun c hc => ?_
    rw [zbit_eq hi hc, hf c hc]; rfl
  have := few_min h hi ht
  rw [hd, hl] at this
  exact this
theorem few_least {ks1 ks2 : List Int} {c mk k : Int} {ls : List Int} (zh1 : ∀ k ∈ ks1, Kd k) (h : few ks1 ks2 8 = some (c, mk, k, ls)) : ∀ n r, Reach ks1 n r → 0 < n → (n : Int) < c → r ≠ ks2 := by
  intro n r hr _ hn e
  obtain ⟨f, t, e2, hle⟩ := reach_form hr
  have := few_low h f t (e.symm.trans e2)
  omega
theorem few_zero {ks1 ks2 : List Int} {c mk k : Int} {ls : List Int} (zh1 : ∀ k ∈ ks1, Kd k) (h : few ks1 ks2 8 = some (c, mk, k, ls)) : (decide (ks1 = ks2) == decide (c = 0)) = true := by
  have hc0 := (few_rng h).2.2.1
  have key : ks1 = ks2 ↔ c = 0 := by
    constructor
    · intro e
      have := few_low h (fun _ => true) [] (by rw [List.append_nil, ← e]; exact (List.filter_eq_self.mpr fun _ _ => rfl).symm)
      have hz : loss ks1 (fun _ => true) [] = 0 := by unfold loss lossP; simp
      rw [hz] at this
      simp only [List.length_nil] at this
      omega
    · intro e
      obtain ⟨i, hi, _, _, _, hcc, ht⟩ := few_is h
      have hd : ks2.drop (keptOf ks1 i).length = [] := List.eq_nil_of_length_eq_zero (by omega)
      have hl : lostOf ks1 ks2 i = [] := List.eq_nil_of_length_eq_zero (by omega)
      have hk : keptOf ks1 i = ks1 := by
        rw [kept_eq]
        refine List.filter_eq_self.mpr fun a ha => ?_
        cases hb : kbit i (ofk a) with
        | true => rfl
        | false =>
          have : ofk a ∈ lostOf ks1 ks2 i := lost_mem.mpr ⟨ofk_mem3, by rw [zbit_eq hi ofk_mem3, hb]; rfl, inC_iff.mpr ⟨a, ha, rfl⟩, by rw [hd]; rfl⟩
          rw [hl] at this; cases this
      have q := List.take_append_drop (keptOf ks1 i).length ks2
      rw [hd, ht, List.append_nil, hk] at q
      exact q
  by_cases e : ks1 = ks2
  · rw [decide_eq_true e, decide_eq_true (key.mp e)]; rfl
  · rw [decide_eq_false e, decide_eq_false (fun q => e (key.mpr q))]; rfl
end Mine
namespace Mine
local macro_rules | `(tactic| k_all) => `(tactic| first | assumption | exact below_ne (by assumption) (by (first | omega | (dsimp only; omega))) (fun p hp => by simp [hp]))
local macro_rules | `(tactic| k_room) => `(tactic| ktr_room)
local macro_rules | `(tactic| walk_at "call builtin:len") => `(tactic| (k_here; (with_reducible show wpAny _ _ (call (Value.builtin _) [Value.ref _]) _ _ _); (with_unfolding_all refine' len_ints_fit ?k1 ?k2 ?k3 ?_; (case k1 => is_list); (case k2 => first | l_ints | exact CarriedAll.intsOf (by assumption)); (case k3 => first | l_fit | (simp only [List.length_map, List.length_drop, List.length_take]; exact Nat.lt_of_le_of_lt (List.length_filter_le _ _) (by omega)) | (simp only [List.length_map, List.length_drop, List.length_take]; omega) | exact Nat.lt_of_le_of_lt (List.length_filter_le _ _) (by rw [rangeInts_length]; omega) | omega); k_whole)))
local macro_rules | `(tactic| k_ne) => `(tactic| first | (refine neN ?_; (try dsimp only); omega) | (refine ne_list_cell (by assumption) (by k_mem) (by k_mem) (by assumption)))
theorem nums_kd (n0 : List Int) : ∀ k ∈ List.map (fun k' : Int => k'.fmod 5) (List.take 24 n0) ++ [1, 2, 0], Kd k := by
  intro k hk
  rcases List.mem_append.mp hk with h | h
  · obtain ⟨x, _, rfl⟩ := List.mem_map.mp h
    have e1 : x.fmod 5 = x % 5 := Int.fmod_eq_emod_of_nonneg x (by decide)
    exact Kd.of (by omega) (by omega)
  · simp only [List.mem_cons, List.not_mem_nil, or_false] at h
    rcases h with rfl | rfl | rfl <;> exact Kd.of (by decide) (by decide)
theorem nums_len (n0 : List Int) : (List.map (fun k' : Int => k'.fmod 5) (List.take 24 n0) ++ [1, 2, 0]).length ≤ 27 := by
  simp only [List.length_append, List.length_map, List.length_take, List.length_cons, List.length_nil]
  omega
theorem nums_take {n0 : List Int} {n : Nat} : (∀ k ∈ List.take n (List.map (fun k' : Int => k'.fmod 5) (List.take 24 n0) ++ [1, 2, 0]), Kd k) ∧ (List.take n (List.map (fun k' : Int => k'.fmod 5) (List.take 24 n0) ++ [1, 2, 0])).length ≤ 27 :=
  ⟨fun k hk => nums_kd n0 k (List.mem_of_mem_take hk), Nat.le_trans (by rw [List.length_take]; exact Nat.min_le_right _ _) (nums_len n0)⟩
theorem nums_drop {n0 : List Int} {n : Nat} : (∀ k ∈ List.drop n (List.map (fun k' : Int => k'.fmod 5) (List.take 24 n0) ++ [1, 2, 0]), Kd k) ∧ (List.drop n (List.map (fun k' : Int => k'.fmod 5) (List.take 24 n0) ++ [1, 2, 0])).length ≤ 27 :=
  ⟨fun k hk => nums_kd n0 k (List.mem_of_mem_drop hk), Nat.le_trans (by rw [List.length_drop]; exact Nat.sub_le _ _) (nums_len n0)⟩
local macro_rules | `(tactic| walk_at "subscriptTail Name Name ref int") => `(tactic| (k_here; k_dflt (first
  | (refine' of_item ?k1 ?k2 ?k3 ?_ ?k4 ?k5; (case k1 => k_asm); (case k2 => k_asm); (case k3 => first | assumption | exact kd_mem (by assumption) (by assumption) | exact kd_mem (List.mem_of_mem_drop (by assumption)) (by assumption) | exact kd_mem (List.mem_of_mem_take (by assumption)) (by assumption)); (case k4 => with_unfolding_all rfl); (case k5 => intro _; with_unfolding_all rfl); k_whole; intro t9)
  | (refine' fold_item ?k1 ?k2 ?k3 ?_ ?k4 ?k5; (case k1 => k_asm); (case k2 => k_asm); (case k3 => first | assumption | exact kd_mem (by assumption) (by assumption) | exact kd_mem (List.mem_of_mem_drop (by assumption)) (by assumption) | exact kd_mem (List.mem_of_mem_take (by assumption)) (by assumption)); (case k4 => with_unfolding_all rfl); (case k5 => intro _; with_unfolding_all rfl); k_whole; intro t9))))
local macro_rules | `(tactic| walk_at "subscriptTail Name Name ref int") => `(tactic| (k_here; (with_reducible show wpAny _ _ (subscriptTail _ _ (Value.ref 194) _) _ _ _); k_dflt (refine' kinds_item ?k1 ?k2 ?k3 ?_ ?k4 ?k5; (case k1 => k_asm); (case k2 => k_asm); (case k3 => first | assumption | exact kd_mem (by assumption) (by assumption)); (case k4 => with_unfolding_all rfl); (case k5 => intro _; with_unfolding_all rfl); k_whole); intro a9 ty9 tz9 hg9; (try (have hT9 := tup_of hg9 (by assumption)))))
local macro_rules | `(tactic| walk_at "subscriptTail Name Name ref int") => `(tactic| (k_here; (with_reducible show wpAny _ _ (subscriptTail _ _ (Value.ref 197) _) _ _ _); k_dflt (refine' other_item ?k1 ?k2 ?k3 ?k6 ?_ ?k4 ?k5; (case k1 => k_asm); (case k2 => k_asm); (case k3 => assumption); (case k6 => assumption); (case k4 => with_unfolding_all rfl); (case k5 => intro _; with_unfolding_all rfl); k_whole); intro t9))
local macro_rules | `(tactic| walk_at "subscriptTail Name Slice ref ref") => `(tactic| (k_here; (with_reducible show wpAny _ _ (subscriptTail _ (PySem.Expr.Slice (some _) none none _) (Value.ref _) (Value.ref _)) _ _ _); k_dflt (refine' sl_from ?uF ?uN ?ul ?ui ?ux ?uz ?_ ?us ?ut; (case uF => k_asm); (case uN => k_asm); (case ul => kmk_list); (case ui => first | assumption | l_ints); (case ux => exact Int.fdiv_nonneg (Int.natCast_nonneg _) (by decide)); (case uz => (first | exact Nat.le_trans (nums_len _) (by decide) | omega | (simp only [List.length_drop, List.length_take]; omega))); (case us => with_unfolding_all rfl); (case ut => kmk_pure); k_whole); intro D' ws' h' F' N' l1 hI'; (try k_lt l1); (try k_sweep)))
local macro_rules | `(tactic| walk_at "subscriptTail Name Slice ref ref") => `(tactic| (k_here; (with_reducible show wpAny _ _ (subscriptTail _ (PySem.Expr.Slice none (some _) none _) (Value.ref _) (Value.ref _)) _ _ _); k_dflt (refine' sl_upto ?uF ?uN ?ul ?ui ?ux ?uz ?_ ?us ?ut; (case uF => k_asm); (case uN => k_asm); (case ul => kmk_list); (case ui => first | assumption | l_ints); (case ux => exact Int.fdiv_nonneg (Int.natCast_nonneg _) (by decide)); (case uz => (first | exact Nat.le_trans (nums_len _) (by decide) | omega | (simp only [List.length_drop, List.length_take]; omega))); (case us => with_unfolding_all rfl); (case ut => kmk_pure); k_whole); intro D' ws' h' F' N' l1 hI'; (try k_lt l1); (try k_sweep)))
local macro_rules | `(tactic| walk_at "call ref") => `(tactic| (k_here; (with_reducible show wpAny _ _ (call (Value.ref 202) _ _) _ _ _); refine Stop.intro ?_))
local macro_rules | `(tactic| walk_at "call ref") => `(tactic| (k_here; (with_reducible show wpAny _ _ (call (Value.ref 207) _ _) _ _ _); refine Stop.intro ?_))
local macro_rules | `(tactic| walk_at "call ref") => `(tactic| (k_here; (with_reducible show wpAny _ _ (call (Value.ref 212) _ _) _ _ _); refine Stop.intro ?_))
local macro_rules | `(tactic| walk_at "compareOp NotEq ref ref") => `(tactic| (k_here; (with_reducible show wpAny _ _ (compareOp CmpOp.NotEq (Value.ref _) (Value.ref _)) _ _ _); refine Stop.intro ?_))
local macro_rules | `(tactic| walk_at "exec If") => `(tactic| (k_here; (with_reducible show wpAny _ _ (exec (Stmt.If (Expr.Compare (Expr.BinOp _ _ _ _) _ _ _) _ _ _) _) _ _ _); (have hq9 : True := by (rename IntsAre _ (List.drop _ _) => hb9); trivial); clear hq9; refine Stop.intro ?_))
local macro_rules | `(tactic| walk_at "exec If Compare") => `(tactic| (k_here; (with_reducible show wpAny _ _ (exec (Stmt.If (Expr.Compare (Expr.BinOp _ _ _ _) _ _ _) _ _ _) _) _ _ _); (have hq9 : True := by (rename IntsAre _ (List.drop _ _) => hb9); trivial); clear hq9; refine Stop.intro ?_))
local macro_rules | `(tactic| walk_at "eval ListComp") => `(tactic| (k_here; (with_reducible show wpAny _ _ (eval (Expr.ListComp (Expr.Subscript (Expr.Name (Str.ofString "_law_KINDS") _) _ _) _ _ _) _) _ _ _); refine Stop.intro ?_))
theorem few_six {c : Int} {n : Nat} (h : c ≤ (n : Int) + 3) (hz : n ≤ 3) : c ≤ 6 := by omega
theorem pick2 {h₀ h : Heap} {L a b : Addr} {x1 x2 : Addr × Obj} {us vs : List Value} {r : List (Addr × Obj)} (N : News h₀ L h ((b, LCg.lst vs) :: x1 :: (a, LCg.lst us) :: x2 :: r)) : News h₀ L h [(a, listOf us.toArray us.length), (b, listOf vs.toArray vs.length)] :=
  news_sub N (fun p hp => by simp only [List.mem_cons, List.not_mem_nil, or_false] at hp; rcases hp with rfl | rfl; exact .tail _ (.tail _ (.head _)); exact .head _)
theorem few_news {h₀ h : Heap} {L lo : Addr} {a b t : Addr × Obj} {lv : Array Value} {n : Nat} (N : News h₀ L h [a, b, t, (lo, listOf lv n)]) : News h₀ L h [a, b, t, (lo, listOf lv.toList.toArray n)] := by
  rw [Array.toArray_toList]; exact N
theorem cut_news {h₀ h : Heap} {L : Addr} {e c a b t : Addr × Obj} {ad r : List (Addr × Obj)} (N : News h₀ L h (e :: c :: (ad ++ (a :: b :: t :: r)))) : News h₀ L h [a, b, t] :=
  news_sub N (fun p hp => .tail _ (.tail _ (List.mem_append.mpr (.inr (by simp only [List.mem_cons, List.not_mem_nil, or_false] at hp ⊢; rcases hp with h | h | h <;> simp [h])))))
theorem rows_same {prog : Program} {w : World} {A : Around} {E : Value → Shared → Prop} {s : Shared} {h₀ : Heap} {L : Addr} {m : Str → Option Value} {news : List (Addr × Obj)} {a b : Addr} {vs ws : List Value} {na nb : Nat} {ks : List Int} {Q : Value → Shared → Prop} (F : Fr h₀ L s.heap m) (N : News h₀ L s.heap news) (ha : (a, listOf vs.toArray na) ∈ news) (hb : (b, listOf ws.toArray nb) ∈ news) (ra : RowIn h₀ news vs ks) (rb : RowIn h₀ news ws ks)
    (hk : ∀ k ∈ ks, Kd k) (hu : A.units + 64 < cLine) (h : Q (.bool false) s) : wpAny (model prog w) A (compareOp .NotEq (.ref a) (.ref b)) Q E s :=
  rows_ne F N ha hb ra rb hk hk hu (by rw [show (!decide (ks = ks)) = false by simp]; exact h)
theorem take3_kd {ks : List Int} : (∀ k ∈ (ks.take 3).map foldk, Kd k) ∧ ((ks.take 3).map foldk).length ≤ 3 := by
  refine ⟨fun k hk => ?_, by rw [List.length_map, List.length_take]; exact Nat.min_le_left _ _⟩
  obtain ⟨x, _, rfl⟩ := List.mem_map.mp hk
  unfold foldk
  repeat' split
  all_goals exact Kd.of (by decide) (by decide)
set_option maxRecDepth 100000 in
set_option maxHeartbeats 8000000 in
theorem law_walk : PySem.Challenge.rw_dj5017_01.Holds := hd (by
  w_top off
  k_go0
  (all_goals try k_fold)
  k_steps
  refine stop_of ?_
  rename IntsAre _ (List.take _ (_ ++ _)) => hA1
  rename IntsAre _ (List.drop _ (_ ++ _)) => hA2
  rename Shared => s1
  rename Fr s1.heap _ _ _ => FE
  rename News s1.heap _ _ _ => NE
  rename Obj => oT
  rename (oT.data = _) => dT
  obtain ⟨D1, D2, vs1, vs2, ks1, ks2, mm, N1, hi1, hi2, hk1, hk2, hz1, hz2, F1, q1, q2⟩ : ∃ (D1 D2 : Addr) (vs1 vs2 : List Value) (ks1 ks2 : List Int) (mm : Str → Option Value), News s1.heap s1.heap.objs.size _ [(D1, listOf vs1.toArray 0), (D2, listOf vs2.toArray 0), (s1.heap.objs.size + 1, oT)] ∧ IntsAre vs1 ks1 ∧ IntsAre vs2 ks2 ∧ (∀ k ∈ ks1, Kd k) ∧ (∀ k ∈ ks2, Kd k) ∧ ks1.length ≤ 27 ∧ ks2.length ≤ 27 ∧ Fr s1.heap s1.heap.objs.size _ mm ∧ mm (Str.ofString "first") = some (.ref D1) ∧ mm (Str.ofString "second") = some (.ref D2) :=
    ⟨_, _, _, _, _, _, _, news_sub NE (fun p hp => by simp only [List.mem_cons, List.not_mem_nil, or_false] at hp ⊢; rcases hp with h | h | h <;> simp [h]), hA1, hA2, nums_take.1, nums_drop.1, nums_take.2, nums_drop.2, FE, rfl, rfl⟩
  obtain ⟨fk0, qk0⟩ := fr_cons F1 rfl (show mm (Str.ofString "first") = some (.ref D1) from q1)
  obtain ⟨fk1, qk1⟩ := fr_cons fk0 qk0 (show mm (Str.ofString "second") = some (.ref D2) from q2)
  have F1a := fk1
  clear fk0 fk1 qk1 qk0
  clear FE NE hA1 hA2 F1
  rename World => w
  rename ((hd.heap_39 _).In _) => KX
  exact by
    k_steps
    all_goals (try k_data)
    · rename CarriedAll _ _ => hCA
      rename NewPlain _ _ _ _ => hNP
      rename Fr s1.heap _ _ _ => FE
      rename News s1.heap _ _ _ => NE
      rename (Heap.get? _ _ = none) => hnone
      obtain ⟨nD, ND⟩ := made_enters hNP FE NE hnone
      have hq := hCA.intsOf
      rw [List.map_id'] at hq
      obtain ⟨kf, hif, hkf, hzf⟩ : ∃ kf, IntsAre _ kf ∧ (∀ k ∈ kf, Kd k) ∧ kf.length ≤ 27 := ⟨_, hq, fun k hk => hk1 k (List.mem_filter.mp hk).1, Nat.le_trans (List.length_filter_le _ _) hz1⟩
      refine' kmk_add_ints FE ND ?ea ?eb hif hi2 ?_ ?ez
      (case ea => assumption)
      (case eb => exact NE.isList (.tail _ (.head _)))
      (case ez => rw [sizeLine_eq]; omega)
      intro D3 vs3 h3 F3 N3 l3 hi3
      clear FE NE ND hNP hnone hCA hq
      obtain ⟨kb, hkbe⟩ : ∃ kb, kb = kf ++ ks2 := ⟨_, rfl⟩
      rw [← hkbe] at hi3
      have hkb : ∀ k ∈ kb, Kd k := by
        rw [hkbe]
        exact fun k hk => (List.mem_append.mp hk).elim (hkf k) (hk2 k)
      have hzb : kb.length ≤ 54 := by
        rw [hkbe, List.length_append]; omega
      clear hkbe hkf hif hzf
      exact by
        k_steps
        refine stop_of ?_
        rename Fr s1.heap _ _ _ => FE
        rename News s1.heap _ _ _ => NE
        have NE1 := news_sub NE (news' := [(D1, listOf vs1.toArray 0), (D3, listOf vs3.toArray 0)]) (fun p hp => by simp only [List.mem_cons, List.not_mem_nil, or_false] at hp ⊢; rcases hp with h | h <;> simp [h])
        clear NE
        refine' fewest_spec (rest := []) ?q1 FE ?q3 NE1 ?q5 ?q6 ?q7 ?q8 hi1 hi3 hk1 hkb ?z1 ?z2 ?_
        (case q1 => k_asm)
        (case q3 => exact KX)
        (case q5 => k_asm)
        (case q6 => first | exact rfl | assumption)
        (case q7 => ktr_room)
        (case q8 => ktr_units)
        (case z1 => omega)
        (case z2 => omega)
        intro t1 lo1 tc1 tm1 tq1 lv1 nlo1 nt1 c1 mk1 kk1 ls1 h1 tk1 hfew1 hls1 F1 N1
        have N1b := few_news N1
        have hcar1 := few_car hk1 hkb hfew1
        have hrng1 := few_rng hfew1
        clear FE NE1 N1
        exact by
          dsimp only
          (try k_fold)
          k_steps
          refine stop_of ?_
          rename Fr s1.heap _ _ _ => FE
          rename News s1.heap _ _ _ => NE
          refine' carried_spec (rest := []) ?q1 FE ?q3 NE ?q5 ?q6 ?q7 ?q8 hi1 hi3 hls1 hk1 hkb ?z1 ?z2 hrng1.1 hrng1.2.1 ?_
          (case q1 => k_asm)
          (case q3 => exact KX)
          (case q5 => k_asm)
          (case q6 => first | exact rfl | assumption)
          (case q7 => ktr_room)
          (case q8 => ktr_units)
          (case z1 => omega)
          (case z2 => omega)
          intro C1 cs1 nc1 ad1 g1 gt1 G1 M1 hrc1
          rw [hcar1] at hrc1
          clear FE NE
          exact by
            dsimp only
            (try k_fold)
            k_steps
            refine stop_of ?_
            rename Fr _ _ _ _ => FF0
            (with_reducible refine' kinds_lc FF0 ?X ?hh ?hclos ?hcell ?hkind ?hnames ?hx ?h ?hs)
            (case X => assumption); (case hh => with_unfolding_all rfl); (case hclos => with_unfolding_all rfl); (case hcell => decide); (case hkind => with_unfolding_all rfl); (case hnames => decide); (case hx => with_unfolding_all rfl); (case hs => intro _; with_unfolding_all rfl)
            k_steps
            refine stop_of ?_
            rename Fr _ _ _ _ => FF
            rename News _ _ _ _ => NN
            refine ⟨_, _, _, _, rfl, NN.isList (.tail _ (List.mem_append.mpr (.inr (.tail _ (.head _))))), hi3, by omega, hkb, FF, NN, ?_, ?_⟩
            · intro C k t s2 m2 E2 hC hkd hns hm2 hk2
              k_steps
              refine stop_of ⟨⟨_, _, _, rfl, by assumption⟩, ⟨_, _, rfl, fun _ _ e => e⟩⟩
            intro E1 es1 ne1 he1 te1 FK1 NK1 hE1 hre1
            clear FF NN
            exact by
              (try dsimp only)
              k_steps
              refine stop_of ?_
              rename Fr s1.heap _ _ _ => FE
              rename News s1.heap _ _ _ => NE
              refine' rows_same FE NE (.tail _ (.head _)) (.head _) (hrc1.at KX ?es) (hre1.at0 KX) hkb ?eu ?_
              (case es => exact fun p hp => .tail _ (.tail _ (List.mem_append.mpr (.inl hp))))
              (case eu => ktr_units)
              have N1c := cut_news NE
              clear NE hrc1 hre1 hcar1 hls1
              exact by
                (try dsimp only)
                k_steps
                refine stop_of ?_
                have F2a : True := trivial
                rename Fr s1.heap _ _ _ => FE
                rename News s1.heap _ _ _ => NE
                rename IntsAre _ (List.map _ (List.take 3 _)) => hio
                rename IntsAre _ (List.map _ (List.take 3 ks1)) => his
                have NE1 := pick2 NE
                obtain ⟨hks, hzs⟩ := take3_kd (ks := ks1)
                obtain ⟨hko, hzo⟩ := take3_kd (ks := kb)
                clear NE
                exact by
                  refine' fewest_spec (rest := []) ?q1 FE ?q3 NE1 ?q5 ?q6 ?q7 ?q8 his hio hks hko ?z1 ?z2 ?_
                  (case q1 => k_asm)
                  (case q3 => exact KX)
                  (case q5 => k_asm)
                  (case q6 => first | exact rfl | assumption)
                  (case q7 => ktr_room)
                  (case q8 => ktr_units)
                  (case z1 => exact Nat.le_trans hzs (by decide))
                  (case z2 => exact Nat.le_trans hzo (by decide))
                  intro t2 lo2 tc2 tm2 tq2 lv2 nlo2 nt2 c2 mk2 kk2 ls2 h2 tk2 hfew2 hls2 F2 N2
                  have N2b := few_news N2
                  have hcar2 := few_car hks hko hfew2
                  have hrng2 := few_rng hfew2
                  clear FE NE1 N2
                  exact by
                    dsimp only
                    (try k_fold)
                    k_steps
                    refine stop_of ?_
                    rename Fr s1.heap _ _ _ => FE
                    rename News s1.heap _ _ _ => NE
                    refine' carried_spec (rest := []) ?q1 FE ?q3 NE ?q5 ?q6 ?q7 ?q8 his hio hls2 hks hko ?z1 ?z2 hrng2.1 hrng2.2.1 ?_
                    (case q1 => k_asm)
                    (case q3 => exact KX)
                    (case q5 => k_asm)
                    (case q6 => first | exact rfl | assumption)
                    (case q7 => ktr_room)
                    (case q8 => ktr_units)
                    (case z1 => exact Nat.le_trans hzs (by decide))
                    (case z2 => exact Nat.le_trans hzo (by decide))
                    intro C2 cs2 nc2 ad2 g2 gt2 G2 M2 hrc2
                    rw [hcar2] at hrc2
                    clear FE NE
                    exact by
                      dsimp only
                      (try k_fold)
                      k_steps
                      refine stop_of ?_
                      rename Fr _ _ _ _ => FF0
                      (with_reducible refine' kinds_lc FF0 ?X ?hh ?hclos ?hcell ?hkind ?hnames ?hx ?h ?hs)
                      (case X => assumption); (case hh => with_unfolding_all rfl); (case hclos => with_unfolding_all rfl); (case hcell => decide); (case hkind => with_unfolding_all rfl); (case hnames => decide); (case hx => with_unfolding_all rfl); (case hs => intro _; with_unfolding_all rfl)
                      k_steps
                      refine stop_of ?_
                      rename Fr _ _ _ _ => FF
                      rename News _ _ _ _ => NN
                      refine ⟨_, _, _, _, rfl, NN.isList (.tail _ (List.mem_append.mpr (.inr (.tail _ (.head _))))), hio, Nat.le_trans hzo (by decide), hko, FF, NN, ?_, ?_⟩
                      · intro C k t s2 m2 E2 hC hkd hns hm2 hk2
                        k_steps
                        refine stop_of ⟨⟨_, _, _, rfl, by assumption⟩, ⟨_, _, rfl, fun _ _ e => e⟩⟩
                      intro E2 es2 ne2 he2 te2 FK2 NK2 hE2 hre2
                      clear FF NN
                      exact by
                        (try dsimp only)
                        k_steps
                        refine stop_of ?_
                        rename Fr s1.heap _ _ _ => FE
                        rename News s1.heap _ _ _ => NE
                        refine' rows_same FE NE (.tail _ (.head _)) (.head _) (hrc2.at KX ?es) (hre2.at0 KX) hko ?eu ?_
                        (case es => exact fun p hp => .tail _ (.tail _ (List.mem_append.mpr (.inl hp))))
                        (case eu => ktr_units)
                        have N2c := cut_news NE
                        clear NE hrc2 hre2 hcar2 hls2
                        exact by
                          (try dsimp only)
                          k_steps
                          refine stop_of ?_
                          rename Fr s1.heap _ _ _ => FE
                          rename News s1.heap _ _ _ => NE
                          refine' sooner_spec ?q1 FE ?q3 NE ?q5 ?q6 ?q7 ?q8 his hio hks hko hzs hzo hrng2.2.2.1 (few_six hrng2.2.2.2 hzo) (few_least hks hfew2) ?_
                          (case q1 => k_asm)
                          (case q3 => exact KX)
                          (case q5 => k_asm)
                          (case q6 => first | exact rfl | assumption)
                          (case q7 => ktr_room)
                          (case q8 => ktr_units)
                          intro h9z tk9z F9z N9z
                          rw [few_zero hks hfew2]
                          exact by
                            (try dsimp only)
                            k_steps
    · refine stop_of ?_
      rename Fr s1.heap _ _ _ => FE
      rename News s1.heap _ _ _ => NE
      have NE1 := news_sub NE (news' := [(D1, listOf vs1.toArray 0), (D2, listOf vs2.toArray 0)]) (fun p hp => by simp only [List.mem_cons, List.not_mem_nil, or_false] at hp ⊢; rcases hp with h | h <;> simp [h])
      clear NE
      refine' fewest_spec (rest := []) ?q1 FE ?q3 NE1 ?q5 ?q6 ?q7 ?q8 hi1 hi2 hk1 hk2 ?z1 ?z2 ?_
      (case q1 => k_asm)
      (case q3 => exact KX)
      (case q5 => k_asm)
      (case q6 => first | exact rfl | assumption)
      (case q7 => ktr_room)
      (case q8 => ktr_units)
      (case z1 => omega)
      (case z2 => omega)
      intro t1 lo1 tc1 tm1 tq1 lv1 nlo1 nt1 c1 mk1 kk1 ls1 h1 tk1 hfew1 hls1 F1 N1
      have N1b := few_news N1
      have hcar1 := few_car hk1 hk2 hfew1
      have hrng1 := few_rng hfew1
      clear FE NE1 N1
      exact by
        dsimp only
        (try k_fold)
        k_steps
        refine stop_of ?_
        rename Fr s1.heap _ _ _ => FE
        rename News s1.heap _ _ _ => NE
        refine' carried_spec (rest := []) ?q1 FE ?q3 NE ?q5 ?q6 ?q7 ?q8 hi1 hi2 hls1 hk1 hk2 ?z1 ?z2 hrng1.1 hrng1.2.1 ?_
        (case q1 => k_asm)
        (case q3 => exact KX)
        (case q5 => k_asm)
        (case q6 => first | exact rfl | assumption)
        (case q7 => ktr_room)
        (case q8 => ktr_units)
        (case z1 => omega)
        (case z2 => omega)
        intro C1 cs1 nc1 ad1 g1 gt1 G1 M1 hrc1
        rw [hcar1] at hrc1
        clear FE NE
        exact by
          dsimp only
          (try k_fold)
          k_steps
          refine stop_of ?_
          rename Fr _ _ _ _ => FF0
          (with_reducible refine' kinds_lc FF0 ?X ?hh ?hclos ?hcell ?hkind ?hnames ?hx ?h ?hs)
          (case X => assumption); (case hh => with_unfolding_all rfl); (case hclos => with_unfolding_all rfl); (case hcell => decide); (case hkind => with_unfolding_all rfl); (case hnames => decide); (case hx => with_unfolding_all rfl); (case hs => intro _; with_unfolding_all rfl)
          k_steps
          refine stop_of ?_
          rename Fr _ _ _ _ => FF
          rename News _ _ _ _ => NN
          refine ⟨_, _, _, _, rfl, NN.isList (.tail _ (List.mem_append.mpr (.inr (.tail _ (.head _))))), hi2, by omega, hk2, FF, NN, ?_, ?_⟩
          · intro C k t s2 m2 E2 hC hkd hns hm2 hk2
            k_steps
            refine stop_of ⟨⟨_, _, _, rfl, by assumption⟩, ⟨_, _, rfl, fun _ _ e => e⟩⟩
          intro E1 es1 ne1 he1 te1 FK1 NK1 hE1 hre1
          clear FF NN
          exact by
            (try dsimp only)
            k_steps
            refine stop_of ?_
            rename Fr s1.heap _ _ _ => FE
            rename News s1.heap _ _ _ => NE
            refine' rows_same FE NE (.tail _ (.head _)) (.head _) (hrc1.at KX ?es) (hre1.at0 KX) hk2 ?eu ?_
            (case es => exact fun p hp => .tail _ (.tail _ (List.mem_append.mpr (.inl hp))))
            (case eu => ktr_units)
            have N1c := cut_news NE
            clear NE hrc1 hre1 hcar1 hls1
            exact by
              (try dsimp only)
              k_steps
              refine stop_of ?_
              have F2a : True := trivial
              rename Fr s1.heap _ _ _ => FE
              rename News s1.heap _ _ _ => NE
              rename IntsAre _ (List.map _ (List.take 3 _)) => hio
              rename IntsAre _ (List.map _ (List.take 3 ks1)) => his
              have NE1 := pick2 NE
              obtain ⟨hks, hzs⟩ := take3_kd (ks := ks1)
              obtain ⟨hko, hzo⟩ := take3_kd (ks := ks2)
              clear NE
              exact by
                refine' fewest_spec (rest := []) ?q1 FE ?q3 NE1 ?q5 ?q6 ?q7 ?q8 his hio hks hko ?z1 ?z2 ?_
                (case q1 => k_asm)
                (case q3 => exact KX)
                (case q5 => k_asm)
                (case q6 => first | exact rfl | assumption)
                (case q7 => ktr_room)
                (case q8 => ktr_units)
                (case z1 => exact Nat.le_trans hzs (by decide))
                (case z2 => exact Nat.le_trans hzo (by decide))
                intro t2 lo2 tc2 tm2 tq2 lv2 nlo2 nt2 c2 mk2 kk2 ls2 h2 tk2 hfew2 hls2 F2 N2
                have N2b := few_news N2
                have hcar2 := few_car hks hko hfew2
                have hrng2 := few_rng hfew2
                clear FE NE1 N2
                exact by
                  dsimp only
                  (try k_fold)
                  k_steps
                  refine stop_of ?_
                  rename Fr s1.heap _ _ _ => FE
                  rename News s1.heap _ _ _ => NE
                  refine' carried_spec (rest := []) ?q1 FE ?q3 NE ?q5 ?q6 ?q7 ?q8 his hio hls2 hks hko ?z1 ?z2 hrng2.1 hrng2.2.1 ?_
                  (case q1 => k_asm)
                  (case q3 => exact KX)
                  (case q5 => k_asm)
                  (case q6 => first | exact rfl | assumption)
                  (case q7 => ktr_room)
                  (case q8 => ktr_units)
                  (case z1 => exact Nat.le_trans hzs (by decide))
                  (case z2 => exact Nat.le_trans hzo (by decide))
                  intro C2 cs2 nc2 ad2 g2 gt2 G2 M2 hrc2
                  rw [hcar2] at hrc2
                  clear FE NE
                  exact by
                    dsimp only
                    (try k_fold)
                    k_steps
                    refine stop_of ?_
                    rename Fr _ _ _ _ => FF0
                    (with_reducible refine' kinds_lc FF0 ?X ?hh ?hclos ?hcell ?hkind ?hnames ?hx ?h ?hs)
                    (case X => assumption); (case hh => with_unfolding_all rfl); (case hclos => with_unfolding_all rfl); (case hcell => decide); (case hkind => with_unfolding_all rfl); (case hnames => decide); (case hx => with_unfolding_all rfl); (case hs => intro _; with_unfolding_all rfl)
                    k_steps
                    refine stop_of ?_
                    rename Fr _ _ _ _ => FF
                    rename News _ _ _ _ => NN
                    refine ⟨_, _, _, _, rfl, NN.isList (.tail _ (List.mem_append.mpr (.inr (.tail _ (.head _))))), hio, Nat.le_trans hzo (by decide), hko, FF, NN, ?_, ?_⟩
                    · intro C k t s2 m2 E2 hC hkd hns hm2 hk2
                      k_steps
                      refine stop_of ⟨⟨_, _, _, rfl, by assumption⟩, ⟨_, _, rfl, fun _ _ e => e⟩⟩
                    intro E2 es2 ne2 he2 te2 FK2 NK2 hE2 hre2
                    clear FF NN
                    exact by
                      (try dsimp only)
                      k_steps
                      refine stop_of ?_
                      rename Fr s1.heap _ _ _ => FE
                      rename News s1.heap _ _ _ => NE
                      refine' rows_same FE NE (.tail _ (.head _)) (.head _) (hrc2.at KX ?es) (hre2.at0 KX) hko ?eu ?_
                      (case es => exact fun p hp => .tail _ (.tail _ (List.mem_append.mpr (.inl hp))))
                      (case eu => ktr_units)
                      have N2c := cut_news NE
                      clear NE hrc2 hre2 hcar2 hls2
                      exact by
                        (try dsimp only)
                        k_steps
                        refine stop_of ?_
                        rename Fr s1.heap _ _ _ => FE
                        rename News s1.heap _ _ _ => NE
                        refine' sooner_spec ?q1 FE ?q3 NE ?q5 ?q6 ?q7 ?q8 his hio hks hko hzs hzo hrng2.2.2.1 (few_six hrng2.2.2.2 hzo) (few_least hks hfew2) ?_
                        (case q1 => k_asm)
                        (case q3 => exact KX)
                        (case q5 => k_asm)
                        (case q6 => first | exact rfl | assumption)
                        (case q7 => ktr_room)
                        (case q8 => ktr_units)
                        intro h9z tk9z F9z N9z
                        rw [few_zero hks hfew2]
                        exact by
                          (try dsimp only)
                          k_steps)
end Mine
theorem PySem.Challenge.cw_dj5017_01_holds : PySem.Challenge.rw_dj5017_01.Holds :=
  Mine.law_walk
