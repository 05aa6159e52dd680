import PyProof.Rows.All
import Wide.All
import OpenK.AllK
import Wide.FinOn
import PySem.Challenge.RW_ny0069_01
set_option Elab.async false

-- part HeadL
namespace Mine
open PySem PySem.W PyProof.Rows
set_option maxRecDepth 100000 in
set_option maxHeartbeats 8000000 in
open_top hd for PySem.Challenge.rw_ny0069_01
end Mine

-- part Txt1
namespace Mine
open PySem PySem.W PySem.Calls PyProof.Rows PySem.Builtin PySem.Builtin.Str
set_option maxRecDepth 100000

/-- the text of a list of signs -/
def S (l : List Nat) : Str := ⟨l.toArray⟩
theorem S_length (l : List Nat) : (S l).length = l.length := by simp [S, Str.length]
theorem S_inj {a b : List Nat} : S a = S b ↔ a = b := by
  constructor
  · intro h; have := congrArg (fun s => s.cps.toList) h; simpa [S] using this
  · intro h; rw [h]
theorem S_cps (l : List Nat) : (S l).cps.toList = l := by simp [S]
theorem S_of (x : Str) : S x.cps.toList = x := rfl
theorem S_append (a b : List Nat) : S a ++ S b = S (a ++ b) := by
  apply Str.ext'; simp [S, Str.cps_append]

def clipI (v : Option Int) (d : Nat) (n : Nat) : Nat := match v with
  | none => d
  | some i => (max 0 (min (if i < 0 then i + n else i) (n : Int))).toNat

theorem idx_eq (lo hi : Option Int) (n : Nat) : strSliceIndices lo hi 1 n = (List.range (clipI hi n n - clipI lo 0 n)).map (fun k => clipI lo 0 n + k) := by
  unfold strSliceIndices sliceRange
  have h1 : (1 : Int) > 0 := by decide
  simp only [h1, if_true]
  have key : ∀ (a b : Int) (a' b' : Nat), a = (a' : Int) → b = (b' : Int) →
      (List.range (if a < b then (b - a + 1 - 1) / 1 else 0).toNat).map (fun (k : Nat) => (a + 1 * (k : Int)).toNat) = (List.range (b' - a')).map (fun k => a' + k) := by
    intro a b a' b' ha hb
    subst ha hb
    have e : (if (a' : Int) < (b' : Int) then ((b' : Int) - a' + 1 - 1) / 1 else 0).toNat = b' - a' := by
      split <;> (try simp only [Int.ediv_one]) <;> omega
    rw [e]
    apply List.map_congr_left
    intro k _
    omega
  apply key
  · cases lo with
    | none => simp [clipI]
    | some i => simp only [clipI]; omega
  · cases hi with
    | none => simp [clipI]
    | some i => simp only [clipI]; omega

theorem clip_le (v : Option Int) (d n : Nat) (hd : d ≤ n) : clipI v d n ≤ n := by
  unfold clipI; split <;> omega

theorem fm_eq (l : List Nat) (a : Nat) : ∀ k, a + k ≤ l.length → ((List.range k).map (fun k => a + k)).filterMap (fun i => l[i]?) = (l.drop a).take k
  | 0, _ => by simp
  | k + 1, h => by
    rw [List.range_succ, List.map_append, List.filterMap_append, fm_eq l a k (by omega), List.take_add_one]
    congr 1
    simp only [List.map_cons, List.map_nil, List.filterMap_cons, List.filterMap_nil, List.getElem?_drop]
    have hk : a + k < l.length := by omega
    rw [List.getElem?_eq_getElem hk]
    rfl

theorem slice_eq (l : List Nat) (lo hi : Option Int) : Txt.slice (S l) lo hi = S ((l.drop (clipI lo 0 l.length)).take (clipI hi l.length l.length - clipI lo 0 l.length)) := by
  unfold Txt.slice
  rw [S_length, idx_eq]
  have ha := clip_le lo 0 l.length (Nat.zero_le _)
  have hb := clip_le hi l.length l.length (Nat.le_refl _)
  generalize clipI lo 0 l.length = a at ha
  generalize clipI hi l.length l.length = b at hb
  simp only [List.length_map, List.length_range]
  split
  · rename_i h
    have h' : b - a = l.length := by simpa using h
    have ea : a = 0 ∨ l.length = 0 := by omega
    rcases ea with ea | ea
    · subst ea
      rw [List.drop_zero, h', List.take_length]
    · have : l = [] := List.length_eq_zero_iff.mp ea
      subst this
      simp
  · show (⟨(((List.range (b - a)).map fun k => a + k).filterMap (fun i => l.toArray[i]?)).toArray⟩ : Str) = _
    have e : (fun (i : Nat) => l.toArray[i]?) = (fun (i : Nat) => l[i]?) := by funext i; simp
    rw [e]
    by_cases hab : a ≤ b
    · rw [fm_eq l a (b - a) (by omega)]; rfl
    · have : b - a = 0 := by omega
      rw [this]; simp [S]

theorem slice_sn {l : List Nat} {i : Int} (h : 0 ≤ i) : Txt.slice (S l) (some i) none = S (l.drop i.toNat) := by
  rw [slice_eq]
  congr 1
  simp only [clipI]
  have e : (max 0 (min (if i < 0 then i + (l.length : Int) else i) (l.length : Int))).toNat = min i.toNat l.length := by
    rw [if_neg (by omega)]; omega
  rw [e]
  by_cases hle : i.toNat ≤ l.length
  · rw [Nat.min_eq_left hle]
    exact List.take_of_length_le (by simp)
  · rw [Nat.min_eq_right (by omega), Nat.sub_self, List.take_zero, List.drop_of_length_le (by omega)]
theorem slice_ns {l : List Nat} {j : Int} (h : 0 ≤ j) : Txt.slice (S l) none (some j) = S (l.take j.toNat) := by
  rw [slice_eq]
  congr 1
  simp only [clipI, List.drop_zero, Nat.sub_zero]
  have e : (max 0 (min (if j < 0 then j + (l.length : Int) else j) (l.length : Int))).toNat = min j.toNat l.length := by
    rw [if_neg (by omega)]; omega
  rw [e]
  by_cases hle : j.toNat ≤ l.length
  · rw [Nat.min_eq_left hle]
  · rw [Nat.min_eq_right (by omega), List.take_length, List.take_of_length_le (by omega)]
theorem slice_ns_neg {l : List Nat} {j : Int} (h : j < 0) : Txt.slice (S l) none (some j) = S (l.take (l.length - (-j).toNat)) := by
  rw [slice_eq]
  congr 1
  simp only [clipI, List.drop_zero, Nat.sub_zero]
  congr 1
  rw [if_pos h]; omega
theorem slice_nn {l : List Nat} : Txt.slice (S l) none none = S l := by
  rw [slice_eq]
  congr 1
  simp [clipI]
theorem slice_ss {l : List Nat} {i j : Int} (hi : 0 ≤ i) (hj : i ≤ j) : Txt.slice (S l) (some i) (some j) = S ((l.drop i.toNat).take (j - i).toNat) := by
  rw [slice_eq]
  congr 1
  simp only [clipI]
  have e : (max 0 (min (if i < 0 then i + (l.length : Int) else i) (l.length : Int))).toNat = min i.toNat l.length := by
    rw [if_neg (by omega)]; omega
  have e' : (max 0 (min (if j < 0 then j + (l.length : Int) else j) (l.length : Int))).toNat = min j.toNat l.length := by
    rw [if_neg (by omega)]; omega
  rw [e, e']
  by_cases hle : i.toNat ≤ l.length
  · rw [Nat.min_eq_left hle]
    by_cases hle' : j.toNat ≤ l.length
    · rw [Nat.min_eq_left hle']; congr 1; omega
    · rw [Nat.min_eq_right (by omega), List.take_of_length_le (by simp), List.take_of_length_le (by simp; omega)]
  · rw [List.drop_of_length_le (by omega : l.length ≤ min i.toNat l.length), List.drop_of_length_le (by omega : l.length ≤ i.toNat)]
    simp
theorem item_eq {l : List Nat} {i : Int} (h0 : 0 ≤ i) (h1 : i < l.length) : Txt.item (S l) i = S [l.getD i.toNat 0] := by
  unfold Txt.item Txt.charAt seqIndex?
  rw [S_length]
  have e : (if i < 0 then i + (l.length : Int) else i) = i := if_neg (by omega)
  simp only [e]
  rw [if_pos (by simp; omega)]
  simp [S]
theorem item_eq_neg {l : List Nat} {i : Int} (h0 : i < 0) (h1 : -(l.length : Int) ≤ i) : Txt.item (S l) i = S [l.getD (l.length - (-i).toNat) 0] := by
  unfold Txt.item Txt.charAt seqIndex?
  rw [S_length]
  have e : (if i < 0 then i + (l.length : Int) else i) = i + l.length := if_pos (by omega)
  simp only [e]
  rw [if_pos (by simp; omega)]
  have e2 : (i + (l.length : Int)).toNat = l.length - (-i).toNat := by omega
  rw [e2]
  simp [S]
end Mine
namespace Mine
open PySem PySem.W PySem.Calls PyProof.Rows PySem.Builtin PySem.Builtin.Str
set_option maxRecDepth 100000
open PySem PySem.W
def up (c : Nat) : Nat := if 97 ≤ c ∧ c ≤ 122 then c - 32 else c
def low (c : Nat) : Nat := if 65 ≤ c ∧ c ≤ 90 then c + 32 else c
theorem upper_S {c : Nat} (h : c < 128) : Txt.upper (S [c]) = S [up c] :=
  (by decide +kernel : ∀ c, c < 128 → Txt.upper (S [c]) = S [up c]) c h
theorem lower_S {c : Nat} (h : c < 128) : Txt.lower (S [c]) = S [low c] :=
  (by decide +kernel : ∀ c, c < 128 → Txt.lower (S [c]) = S [low c]) c h
theorem getD_lt {l : List Nat} {i : Nat} (h : ∀ c ∈ l, c < 128) : l.getD i 0 < 128 := by
  by_cases hi : i < l.length
  · rw [List.getD_eq_getElem?_getD, List.getElem?_eq_getElem hi]; exact h _ (List.getElem_mem hi)
  · rw [List.getD_eq_getElem?_getD, List.getElem?_eq_none (by omega)]; decide
end Mine

-- part Rules
namespace Mine
open PySem PySem.W PySem.Calls PyProof.Rows
set_option maxRecDepth 100000

section
variable {prog : Program} {w : World} {A A₀ : Around} {E : Value → Shared → Prop} {s : Shared} {K : Frag} {L : Addr} {h₀ base : Heap} {m mg mb : Str → Option Value} {news : List (Addr × Obj)} {p : Program} {loose : List Str} {mean : ExcName → Option Value} {Q : Value → Shared → Prop}

/-- heap growth: all that stood still stands -/
abbrev Keeps (g h : Heap) : Prop := ∀ b o, g.get? b = some o → h.get? b = some o

theorem fr_keeps {h h' : Heap} (F : Fr h₀ L h m) (k : Keeps h h') : Fr h₀ L h' m := by
  obtain ⟨oL, es, ep, hL, r⟩ := F.ns
  exact ⟨⟨oL, es, ep, k _ _ hL, r⟩, fun b o e => k b o (F.keep b o e), F.above⟩
theorem news_keeps {h h' : Heap} (N : News h₀ L h news) (k : Keeps h h') : News h₀ L h' news :=
  fun p hp => ⟨k _ _ (N p hp).1, (N p hp).2.1, (N p hp).2.2⟩

/-- what a call of the def at f does: it ends with a value as told; all that stood before it stands -/
def Clm (prog : Program) (w : World) (K : Frag) (p : Program) (loose : List Str) (mean : ExcName → Option Value) (mg mb : Str → Option Value) (f : Addr) (vs : List Value) (Post : Value → Prop) (k : Nat) : Prop :=
  ∀ (dp un : Nat) (gd : Option (List Code)) (cn : Str) (cs : Scope) (a : Addr) (ccd : Value) (cl : List (Str × Addr)) (outer : List Env) (A₀ : Around) (base h₀ : Heap) (L : Addr) (m : Str → Option Value) (s : Shared) (Q E : Value → Shared → Prop),
    Below A₀ base outer h₀ → Fr h₀ L s.heap m → K.In h₀ → Top p loose mean mg mb h₀ → cs.kind = .function → dp + k < recursionLimit → un + 10 * k < cLine →
    (∀ (v : Value) (h' : Heap) (tk' : Nat), Post v → Keeps s.heap h' → Q v { s with heap := h', toks := tk' }) →
    wpAny (model prog w) (ktrTop dp un gd cn cs L a ccd cl outer) (call (.ref f) vs) Q E s

theorem enter_own {env : Env} {outer : List Env} {R : Result → Shared → Prop} {name qual : Str} {params : Arguments} {body : List Stmt} {scope : Scope} {dV kV doc pm cdv ct oc : Value} {an od : Option Addr} {osl : Array (Option Value)} {f : Addr} {args : Args} {binds : List (Str × Value)}
    (B : Below A₀ base outer h₀) (F : Fr h₀ L s.heap m) (X₀ : K.In h₀) (T : Top p loose mean mg mb h₀) (hA : A.frames = some (env :: outer)) (hf : env.frame = some L) (hke : env.scope.kind = .function)
    (ho : K.lookup f = some ⟨oc, od, .func (fnOf name qual params body scope dV kV doc pm an cdv ct), osl⟩) (hcd : codeIn K cdv qual = true) (hroom : A.depth < recursionLimit)
    (hbind : BindsTo s (fnOf name qual params body scope dV kV doc pm an cdv ct) args binds) (hloc : ∀ y ∈ binds, scope.names.lookup y.1 = some .local)
    (h : ∀ L' h₁, Fr s.heap L' h₁ (fun y => binds.reverse.lookup y) → News s.heap L' h₁ [] → Below A base (env :: outer) s.heap → K.In s.heap → Top p loose mean mg mb s.heap →
      wpAny (model prog w) (A.deeper (envOf qual scope L' f cdv)) (execs body (envOf qual scope L' f cdv))
        (fun fl s' => R (.ok (.ret (match fl with | .ret v => v | _ => .none))) s')
        (fun e s' => wpAny (model prog w) (A.deeper (envOf qual scope L' f cdv)) (leaving (envOf qual scope L' f cdv) e) (fun _ s'' => R (.error e) s'') (fun e' s'' => R (.error e') s'') s')
        { s with heap := h₁, toks := s.toks + binds.length })
    (hco : scope.isCoroutine = false) (hgen : scope.isGenerator = false) (hk : scope.kind = .function)
    (hcell : ∀ x ∈ scope.names, x.2 ≠ .cell) : codeAny (model prog w) A (.call (.ref f) args) R s := by
  have X := X₀.keeps F.keep
  have T' := T.keeps F.keep
  have B' := pushX B F hf hke
  refine codeAny_call_def (fd := fnOf name qual params body scope dV kV doc pm an cdv ct) (body := body) (binds := binds) hroom (X _ _ ho) rfl (T.nolimit.keeps F.keep) (codeRec_of X hcd) rfl hbind hcell hloc (fun h₁ hns hk₁ => ?_) hco hgen hk
  exact h s.heap.objs.size h₁ ⟨hns, hk₁, Nat.le_refl _⟩ News.nil ⟨hA, B'.stays, B'.frames⟩ X T'
end

section
variable {prog : Program} {w : World} {A : Around} {E : Value → Shared → Prop} {s : Shared} {value slice : Expr} {l l2 : List Nat} {t u : Tok} {h₀ : Heap} {L : Addr} {m : Str → Option Value} {news : List (Addr × Obj)} {Q : Value → Shared → Prop}

theorem szS {l : List Nat} (h : l.length ≤ 1000) : (S l).length ≤ sizeLine := by rw [S_length, sizeLine_eq]; omega

theorem r_nn (hF : Fr h₀ L s.heap m) (hN : News h₀ L s.heap news) (hz : l.length ≤ 1000) (h : ∀ h' t' k, Fr h₀ L h' m → News h₀ L h' news → Q (.str (S l) t') { s with heap := h', toks := k })
    (hs : subscripted slice false (.str (S l) t) (.ref s.heap.objs.size) = operate [.ref s.heap.objs.size, .str (S l) t] (getItem (.str (S l) t) (.ref s.heap.objs.size)) := by with_unfolding_all rfl)
    (ht : ∀ r, letTemporaryGo value (.str (S l) t) r = pure () := by intro _; with_unfolding_all rfl) :
    wpAny (model prog w) A (subscriptTail value slice (.str (S l) t) (.ref s.heap.objs.size)) Q E { s with heap := s.heap.push { cls := .type "slice", data := .fields #[.none, .none, .none] } } :=
  slice_strN_nn hF hN (fun h' t' k a b => by rw [slice_nn]; exact h h' t' k a b) hs ht (szS hz)
theorem r_ns {j : Int} {uj : Tok} (hF : Fr h₀ L s.heap m) (hN : News h₀ L s.heap news) (hj : 0 ≤ j) (hz : l.length ≤ 1000) (h : ∀ h' t' k, Fr h₀ L h' m → News h₀ L h' news → Q (.str (S (l.take j.toNat)) t') { s with heap := h', toks := k })
    (hs : subscripted slice false (.str (S l) t) (.ref s.heap.objs.size) = operate [.ref s.heap.objs.size, .str (S l) t] (getItem (.str (S l) t) (.ref s.heap.objs.size)) := by with_unfolding_all rfl)
    (ht : ∀ r, letTemporaryGo value (.str (S l) t) r = pure () := by intro _; with_unfolding_all rfl) :
    wpAny (model prog w) A (subscriptTail value slice (.str (S l) t) (.ref s.heap.objs.size)) Q E { s with heap := s.heap.push { cls := .type "slice", data := .fields #[.none, .int j uj, .none] } } :=
  slice_strN_ns hF hN (fun h' t' k a b => by rw [slice_ns hj]; exact h h' t' k a b) hs ht (szS hz)
theorem r_ns_neg {j : Int} {uj : Tok} (hF : Fr h₀ L s.heap m) (hN : News h₀ L s.heap news) (hj : j < 0) (hz : l.length ≤ 1000) (h : ∀ h' t' k, Fr h₀ L h' m → News h₀ L h' news → Q (.str (S (l.take (l.length - (-j).toNat))) t') { s with heap := h', toks := k })
    (hs : subscripted slice false (.str (S l) t) (.ref s.heap.objs.size) = operate [.ref s.heap.objs.size, .str (S l) t] (getItem (.str (S l) t) (.ref s.heap.objs.size)) := by with_unfolding_all rfl)
    (ht : ∀ r, letTemporaryGo value (.str (S l) t) r = pure () := by intro _; with_unfolding_all rfl) :
    wpAny (model prog w) A (subscriptTail value slice (.str (S l) t) (.ref s.heap.objs.size)) Q E { s with heap := s.heap.push { cls := .type "slice", data := .fields #[.none, .int j uj, .none] } } :=
  slice_strN_ns hF hN (fun h' t' k a b => by rw [slice_ns_neg hj]; exact h h' t' k a b) hs ht (szS hz)
theorem r_sn {i : Int} {ui : Tok} (hF : Fr h₀ L s.heap m) (hN : News h₀ L s.heap news) (hi : 0 ≤ i) (hz : l.length ≤ 1000) (h : ∀ h' t' k, Fr h₀ L h' m → News h₀ L h' news → Q (.str (S (l.drop i.toNat)) t') { s with heap := h', toks := k })
    (hs : subscripted slice false (.str (S l) t) (.ref s.heap.objs.size) = operate [.ref s.heap.objs.size, .str (S l) t] (getItem (.str (S l) t) (.ref s.heap.objs.size)) := by with_unfolding_all rfl)
    (ht : ∀ r, letTemporaryGo value (.str (S l) t) r = pure () := by intro _; with_unfolding_all rfl) :
    wpAny (model prog w) A (subscriptTail value slice (.str (S l) t) (.ref s.heap.objs.size)) Q E { s with heap := s.heap.push { cls := .type "slice", data := .fields #[.int i ui, .none, .none] } } :=
  slice_strN_sn hF hN (fun h' t' k a b => by rw [slice_sn hi]; exact h h' t' k a b) hs ht (szS hz)
theorem r_ss {i j : Int} {ui uj : Tok} (hF : Fr h₀ L s.heap m) (hN : News h₀ L s.heap news) (hi : 0 ≤ i) (hj : i ≤ j) (hz : l.length ≤ 1000) (h : ∀ h' t' k, Fr h₀ L h' m → News h₀ L h' news → Q (.str (S ((l.drop i.toNat).take (j - i).toNat)) t') { s with heap := h', toks := k })
    (hs : subscripted slice false (.str (S l) t) (.ref s.heap.objs.size) = operate [.ref s.heap.objs.size, .str (S l) t] (getItem (.str (S l) t) (.ref s.heap.objs.size)) := by with_unfolding_all rfl)
    (ht : ∀ r, letTemporaryGo value (.str (S l) t) r = pure () := by intro _; with_unfolding_all rfl) :
    wpAny (model prog w) A (subscriptTail value slice (.str (S l) t) (.ref s.heap.objs.size)) Q E { s with heap := s.heap.push { cls := .type "slice", data := .fields #[.int i ui, .int j uj, .none] } } :=
  slice_strN_ss hF hN (fun h' t' k a b => by rw [slice_ss hi hj]; exact h h' t' k a b) hs ht (szS hz)
theorem r_item {i : Int} (h0 : 0 ≤ i) (h1 : i < l.length) (hz : l.length ≤ 1000) (h : ∀ t' k, Q (.str (S [l.getD i.toNat 0]) t') { s with toks := k })
    (hs : subscripted slice false (.str (S l) t) (.int i u) = operate [.str (S l) t, .int i u] (getItem (.str (S l) t) (.int i u)) := by with_unfolding_all rfl)
    (ht : ∀ r, letTemporaryGo value (.str (S l) t) r = pure () := by intro _; with_unfolding_all rfl) :
    wpAny (model prog w) A (subscriptTail value slice (.str (S l) t) (.int i u)) Q E s :=
  item_str (fitsSsize_of (N := 9223372036854775808) (by omega) (by omega) (Int.le_refl _)) (by rw [S_length]; omega) (by rw [S_length]; omega) (fun _ => by rw [item_eq h0 h1]; exact h _ _) hs ht
theorem r_item_neg {i : Int} (h0 : i < 0) (h1 : -(l.length : Int) ≤ i) (hz : l.length ≤ 1000) (h : ∀ t' k, Q (.str (S [l.getD (l.length - (-i).toNat) 0]) t') { s with toks := k })
    (hs : subscripted slice false (.str (S l) t) (.int i u) = operate [.str (S l) t, .int i u] (getItem (.str (S l) t) (.int i u)) := by with_unfolding_all rfl)
    (ht : ∀ r, letTemporaryGo value (.str (S l) t) r = pure () := by intro _; with_unfolding_all rfl) :
    wpAny (model prog w) A (subscriptTail value slice (.str (S l) t) (.int i u)) Q E s :=
  item_str (fitsSsize_of (N := 9223372036854775808) (by omega) (by omega) (Int.le_refl _)) (by rw [S_length]; omega) (by rw [S_length]; omega) (fun _ => by rw [item_eq_neg h0 h1]; exact h _ _) hs ht
theorem r_len (hz : l.length ≤ 1000) (h : ∀ t' k, Q (.int l.length t') { s with toks := k }) : wpAny (model prog w) A (call (.builtin "len") [.str (S l) t]) Q E s :=
  P.len_str (by rw [S_length]; omega) (by rw [S_length]; exact h _ _)
theorem r_truthy {Q : Bool → Shared → Prop} (hz : l.length ≤ 1000) (h : ∀ k, Q (decide (l ≠ [])) { s with toks := k }) : wpAny (model prog w) A (truthy (.str (S l) t)) Q E s :=
  P.truthy_str (by rw [S_length]; omega) (by
    have e : ((((S l).length : Nat) : Int) != 0) = decide (l ≠ []) := by
      rw [S_length]
      cases l with
      | nil => rfl
      | cons a r => simp; omega
    rw [e]; exact h _)
theorem r_add (hz : l.length + l2.length ≤ 10000) (h : ∀ t' k, Q (.str (S (l ++ l2)) t') { s with toks := k }) : wpAny (model prog w) A (binaryOp .Add (.str (S l) t) (.str (S l2) u)) Q E s :=
  SB.add (fun t' k => by rw [S_append]; exact h t' k) (by rw [S_length, S_length, sizeLine_eq]; omega)
theorem r_iadd (hz : l.length + l2.length ≤ 10000) (h : ∀ t' k, Q (.str (S (l ++ l2)) t') { s with toks := k }) : wpAny (model prog w) A (inplaceOp .Add (.str (S l) t) (.str (S l2) u)) Q E s :=
  SB.iadd (fun t' k => by rw [S_append]; exact h t' k) (by rw [S_length, S_length, sizeLine_eq]; omega)
end
end Mine
namespace Mine
open PySem PySem.W PySem.Calls PyProof.Rows
set_option maxRecDepth 100000
/-- a stop of the walk -/
def Halt (P : Prop) : Prop := P
theorem Halt.mk {P : Prop} (h : Halt P) : P := h
theorem Halt.out {P : Prop} (h : P) : Halt P := h
end Mine
namespace Mine
open PySem PySem.W PySem.Calls PyProof.Rows
set_option maxRecDepth 100000
section
variable {prog : Program} {w : World} {A : Around} {E : Value → Shared → Prop} {s : Shared} {t : Tok} {c : Nat} {Q : Value → Shared → Prop}
theorem r_upper (hc : c < 128) (h : ∀ t' k, Q (.str (S [up c]) t') { s with toks := k }) : wpAny (model prog w) A (call (.builtin "str.upper") [.str (S [c]) t]) Q E s :=
  SCL.upper (by rw [S_length]; simp) (fun _ => by rw [upper_S hc]; exact h _ _)
theorem r_lower (hc : c < 128) (h : ∀ t' k, Q (.str (S [low c]) t') { s with toks := k }) : wpAny (model prog w) A (call (.builtin "str.lower") [.str (S [c]) t]) Q E s :=
  SCL.lower (by rw [S_length]; simp) (fun _ => by rw [lower_S hc]; exact h _ _)
end
end Mine
namespace Mine
open PySem PySem.W PySem.Calls PyProof.Rows
set_option maxRecDepth 100000
/-- behind a statement: the frame and the ledger as told -/
def Aft (s : Shared) (g : Heap) (L : Addr) (news : List (Addr × Obj)) (P : (Str → Option Value) → Prop) (fl : Flow) (s' : Shared) : Prop :=
  fl = .next ∧ ∃ h' tk' m', s' = { s with heap := h', toks := tk' } ∧ Fr g L h' m' ∧ News g L h' news ∧ P m'
theorem Aft.intro {s : Shared} {g : Heap} {L : Addr} {news : List (Addr × Obj)} {P : (Str → Option Value) → Prop} {h' : Heap} {tk' : Nat} {m' : Str → Option Value} (F : Fr g L h' m') (N : News g L h' news) (p : P m') :
    Aft s g L news P .next { s with heap := h', toks := tk' } := ⟨rfl, h', tk', m', rfl, F, N, p⟩
theorem aft_mono {M : Model} {A : Around} {E : Value → Shared → Prop} {s : Shared} {g : Heap} {L : Addr} {m : Str → Option Value} {news₀ news : List (Addr × Obj)} (P : (Str → Option Value) → Prop) {t : Sem Flow} {Q : Flow → Shared → Prop}
    (_F : Fr g L s.heap m) (_N : News g L s.heap news₀) (h : wpAny M A t (Aft s g L news P) E s) (k : ∀ h' tk' m', Fr g L h' m' → News g L h' news → P m' → Q .next { s with heap := h', toks := tk' }) : wpAny M A t Q E s :=
  wpAny_mono h (fun _ _ ⟨e, h', tk', m', e', F, N, p⟩ => by subst e e'; exact k h' tk' m' F N p) fun _ _ x => x
end Mine
namespace Mine
open PySem PySem.W PySem.Calls PyProof.Rows
set_option maxRecDepth 100000
theorem r_truthy2 {prog : Program} {w : World} {A : Around} {E : Value → Shared → Prop} {s : Shared} {l : List Nat} {t : Tok} {Q : Bool → Shared → Prop} (hz : l.length ≤ 1000) (ht : 0 < l.length → ∀ k, Q true { s with toks := k }) (hf : l.length = 0 → ∀ k, Q false { s with toks := k }) : wpAny (model prog w) A (truthy (.str (S l) t)) Q E s :=
  r_truthy hz fun k => by
    cases l with
    | nil => exact hf rfl k
    | cons a r => exact ht (by simp) k
end Mine
namespace Mine
open PySem PySem.W PySem.Calls PyProof.Rows
set_option maxRecDepth 100000
def orNone (q : Int) (t : Tok) : Value := if q = 0 then .none else .int q t
section
variable {prog : Program} {w : World} {A : Around} {E : Value → Shared → Prop} {s : Shared} {name : Str} {scope : Scope} {L a : Addr} {cd : Value} {h₀ : Heap} {m : Str → Option Value} {news : List (Addr × Obj)} {Q : Value → Shared → Prop}
theorem r_orNone {x : Str} {p1 p2 pos : Pos} {k : Nat} {q : Int} {t : Tok} (F : Fr h₀ L s.heap m) (hv : m x = some (.int q t)) (h : Q (orNone q t) s)
    (hk : scope.kind = .function := by rfl) (hl : (envOf name scope L a cd).kindOf x = some .local := by rfl) (hd : (x == ("__debug__" : Str)) = false := by decide) :
    wpAny (model prog w) A (eval (.BoolOp .Or [.Name x p1, .Constant .none k p2] pos) (envOf name scope L a cd)) Q E s := by
  refine BoolOp_or (ld F hv (truthy_int ?_) hk hl hd)
  unfold orNone at h
  by_cases e : q = 0
  · rw [if_pos e] at h
    subst e
    exact BoolOp_one (Constant_none h)
  · rw [if_neg e] at h
    have : (q != 0) = true := by simpa using e
    rw [this]
    exact h
theorem r_orSlice {value slice : Expr} {l : List Nat} {t : Tok} {j : Int} {uj : Tok} (hF : Fr h₀ L s.heap m) (hN : News h₀ L s.heap news) (hj : j ≤ 0) (hz : l.length ≤ 1000) (h : ∀ h' t' k, Fr h₀ L h' m → News h₀ L h' news → Q (.str (S (l.take (l.length - (-j).toNat))) t') { s with heap := h', toks := k })
    (hs : subscripted slice false (.str (S l) t) (.ref s.heap.objs.size) = operate [.ref s.heap.objs.size, .str (S l) t] (getItem (.str (S l) t) (.ref s.heap.objs.size)) := by with_unfolding_all rfl)
    (ht : ∀ r, letTemporaryGo value (.str (S l) t) r = pure () := by intro _; with_unfolding_all rfl) :
    wpAny (model prog w) A (subscriptTail value slice (.str (S l) t) (.ref s.heap.objs.size)) Q E { s with heap := s.heap.push { cls := .type "slice", data := .fields #[.none, orNone j uj, .none] } } := by
  unfold orNone
  by_cases e : j = 0
  · rw [if_pos e]
    subst e
    refine r_nn hF hN hz (fun h' t' k a b => ?_) hs ht
    have := h h' t' k a b
    rwa [show l.length - (-(0 : Int)).toNat = l.length from by simp, List.take_length] at this
  · rw [if_neg e]
    exact r_ns_neg hF hN (by omega) hz h hs ht
end
end Mine
namespace Mine
open PySem PySem.W PySem.Calls PyProof.Rows
set_option maxRecDepth 100000
theorem ints_map : ∀ (vs : List Value) (f : Nat → Int), (∀ (j : Nat) (v : Value), vs[j]? = some v → ∃ t, v = .int (f j) t) → IntsAre vs ((List.range vs.length).map f)
  | [], _, _ => IntsAre.nil
  | v :: r, f, h => by
    obtain ⟨t, ht⟩ := h 0 v rfl
    subst ht
    rw [List.length_cons, List.range_succ_eq_map, List.map_cons, List.map_map]
    exact IntsAre.cons _ _ (ints_map r (f ∘ Nat.succ) fun j v hj => h (j + 1) v hj)
section
variable {prog : Program} {w : World} {A : Around} {E : Value → Shared → Prop} {s : Shared} {h₀ : Heap} {L r : Addr} {m : Str → Option Value} {news : List (Addr × Obj)} {t₀ u₀ v₀ : Tok} {n : Nat} {Q : Value → Shared → Prop}
theorem r_evens (hh : A.handled = none) (F : Fr h₀ L s.heap m) (N : News h₀ L s.heap news) (hr : IsRange s.heap r 2 (2 * ((n : Int) + 1)) 2 t₀ u₀ v₀) (hz : n ≤ 1000)
    (h : ∀ D us c h' tk, Fr h₀ L h' m → News h₀ L h' ((D, listOf (List.toArray us) c) :: news) → (∀ p ∈ news, p.1 < D) → IntsAre us ((List.range n).map fun (j : Nat) => 2 * ((j : Int) + 1)) → Q (.ref D) { s with heap := h', toks := tk }) :
    wpAny (model prog w) A (call (.type "list") [.ref r]) Q E s := by
  have hn : Builtin.Range.rangeSize 2 (2 * ((n : Int) + 1)) 2 = (n : Int) := by
    unfold Builtin.Range.rangeSize
    simp only [show (2 : Int) > 0 by decide, if_true]
    split <;> omega
  have hsmall : Builtin.Range.small 2 (2 * ((n : Int) + 1)) 2 = true := by
    have hf : ∀ x : Int, -1000000 ≤ x → x ≤ 1000000 → Builtin.Range.rangeFitsLong x = true := by
      intro x h1 h2
      unfold Builtin.Range.rangeFitsLong
      rw [Bool.and_eq_true, decide_eq_true_eq, decide_eq_true_eq]
      constructor <;> omega
    unfold Builtin.Range.small
    rw [hn]
    simp only [hf 2 (by omega) (by omega), hf (2 * ((n : Int) + 1)) (by omega) (by omega), hf (n : Int) (by omega) (by omega), show (2 : Int) > 0 by decide, if_true, Bool.true_and, Bool.and_true, Bool.or_eq_true, beq_iff_eq]
    exact .inr (hf _ (by omega) (by omega))
  refine call_list_range hh hr hsmall hn (by omega) fun h' tk acc c hk hD hI => ?_
  have hD' : h'.get? s.heap.objs.size = some (listOf (List.toArray acc.toList) c) := by
    rw [Array.toArray_toList]
    exact hD
  refine h _ acc.toList c h' tk (F.keeps hk) (news_pushed F N hk hD' rfl) (fun p hp => Heap.lt_size (N p hp).1) ?_
  have hl : acc.toList.length = n := by rw [Array.length_toList]; exact hI.1
  rw [← hl]
  refine ints_map _ _ fun j v hj => ?_
  obtain ⟨t, ht⟩ := hI.2 j v (by rw [← hj, Array.getElem?_toList])
  have e : (2 : Int) + (j : Int) * 2 = 2 * ((j : Int) + 1) := by omega
  rw [e] at ht
  exact ⟨t, ht⟩
end
end Mine
namespace Mine
open PySem PySem.W PySem.Calls PyProof.Rows
set_option maxRecDepth 100000
section
variable {prog : Program} {w : World} {A : Around} {E : Value → Shared → Prop} {s : Shared} {env : Env} {h₀ : Heap} {x : Str} {body : List Stmt} {Q : Flow → Shared → Prop}
theorem r_range {r : Addr} {b₀ : Nat} {t₀ u₀ v₀ : Tok} {m₀ : Str → Option Value} {news : List (Addr × Obj)} (J : Nat → (Str → Option Value) → List (Addr × Obj) → Prop)
    (hh : A.handled = none) (hr : IsRange s.heap r 0 (b₀ : Int) 1 t₀ u₀ v₀) (hb : b₀ ≤ 1000) (F : Fr h₀ env.locals s.heap m₀) (N : News h₀ env.locals s.heap news) (hj : J 0 m₀ news)
    (turn : ∀ i t m₁ news₁ h tk own, i < b₀ → OwnOff own (news.map (·.1)) → J i m₁ news₁ → Fr h₀ env.locals h (fun y => if y = x then some (.int (i : Int) t) else m₁ y) → News h₀ env.locals h (news₁ ++ own) →
      wpAny (model prog w) A (execs body env) (InvPostN h₀ env.locals (J (i + 1)) own (news.map (·.1)) { s with heap := h, toks := tk } Q) E { s with heap := h, toks := tk })
    (done : ∀ m₁ news₁ h tk, J b₀ m₁ news₁ → Fr h₀ env.locals h m₁ → News h₀ env.locals h news₁ → Q .next { s with heap := h, toks := tk }) :
    wpAny (model prog w) A (pyIter (.ref r)) (fun it s₂ => LoopAtV prog w A h₀ env x body Q E it s₂) E s := by
  have hsmall : Builtin.Range.small 0 (b₀ : Int) 1 = true := small_one (by omega) (by omega) (by omega) (by omega)
  have hn : Builtin.Range.rangeSize 0 (b₀ : Int) 1 = (b₀ : Int) := by rw [rangeSize_nat]; omega
  refine wpAny_pyIter_range hr hsmall ?_
  have W : Walks prog w A s.heap.objs.size [s.heap.objs.size] [s.heap.objs.size] b₀ (fun i v => i < b₀ ∧ ∃ t, v = .int ((0 : Int) + i * 1) t)
      (fun i h => IsRangeIter h s.heap.objs.size ((0 : Int) + (i : Nat) * 1) ((b₀ : Int) - (i : Nat)) 1) := (Walks.range hh _ 0 1 b₀).bound
  refine loop_invN J W ?_ ?_ ?_ ?_ (by show IsRangeIter _ _ _ _ _; rw [hn]; simpa using Heap.get?_push_size _ rfl) (F.push _) (fun p hp => ⟨Heap.get?_push_of_some _ (N p hp).1, (N p hp).2⟩) hj ?_ ?_
  · intro hm
    exact absurd F.ns.lt ((List.mem_singleton.mp hm) ▸ Nat.lt_irrefl _)
  · intro b hb
    rw [List.mem_singleton.mp hb]
    exact next_is_new F
  · intro p hp hI
    exact absurd (Heap.lt_size (N p hp).1) ((List.mem_singleton.mp hI) ▸ Nat.lt_irrefl _)
  · intro p hp hI
    exact absurd (Heap.lt_size (N p hp).1) ((List.mem_singleton.mp hI) ▸ Nat.lt_irrefl _)
  · rintro i v m₁ news₁ h tk own hi ⟨_, t, rfl⟩ _ ho hJ F' N'
    have e : (0 : Int) + (i : Int) * 1 = (i : Int) := by omega
    rw [e] at F'
    exact turn i t m₁ news₁ h tk own hi ho hJ F' N'
  · exact done
end
theorem use_clm {prog : Program} {w : World} {A₀ : Around} {E : Value → Shared → Prop} {s : Shared} {K : Frag} {L : Addr} {h₀ base : Heap} {m mg mb : Str → Option Value} {news : List (Addr × Obj)} {p : Program} {loose : List Str} {mean : ExcName → Option Value} {Q : Value → Shared → Prop}
    {f : Addr} {vs : List Value} {Post : Value → Prop} {dp un : Nat} {gd : Option (List Code)} {cn : Str} {cs : Scope} {a : Addr} {ccd : Value} {cl : List (Str × Addr)} {outer : List Env} {k : Nat}
    (C : Clm prog w K p loose mean mg mb f vs Post k) (B : Below A₀ base outer h₀) (F : Fr h₀ L s.heap m) (X : K.In h₀) (T : Top p loose mean mg mb h₀) (N : News h₀ L s.heap news) (hk : cs.kind = .function) (hd : dp + k < recursionLimit) (hu : un + 10 * k < cLine)
    (h : ∀ v h' tk', Post v → Fr h₀ L h' m → News h₀ L h' news → Q v { s with heap := h', toks := tk' }) :
    wpAny (model prog w) (ktrTop dp un gd cn cs L a ccd cl outer) (call (.ref f) vs) Q E s :=
  C dp un gd cn cs a ccd cl outer A₀ base h₀ L m s Q E B F X T hk hd hu fun v h' tk' hp k => h v h' tk' hp (fr_keeps F k) (news_keeps N k)
end Mine

-- part Sub
namespace Mine
open PySem PySem.W PySem.Calls PyProof.Rows
set_option maxRecDepth 100000
noncomputable abbrev loose39 := looseW hd.view_39 [PySem.Str.ofString "capwords"]
local macro_rules | `(tactic| cell_enter) => `(tactic| (refine' enter_own ?k1 ?k2 ?k3 ?k5 ?kA ?kF ?kK ?k6 ?k7 ?k8 ?k9 ?kB ?_ ?c2 ?c3 ?c4 ?c5; (case kA => exact rfl); (case kF => exact rfl); (case kK => assumption); (case k1 => k_asm); (case k2 => k_asm); (case k3 => k_asm); (case k5 => k_asm); (case k6 => k_is); (case k7 => k_is); (case k8 => ktr_room); (case k9 => exact BindsTo.of_eq rfl); (case c5 => decide); (case kB => exact locs rfl); (case c2 => exact rfl); (case c3 => exact rfl); (case c4 => exact rfl); k_whole; intro L' h' F' N' B' X' T'; (try dsimp only); (try k_fold)))

/-- the cost of one sign in another's place -/
def cost (c d : Nat) : Nat := if c = d then 0 else if Txt.lower (S [c]) = Txt.lower (S [d]) then 1 else 2

local macro_rules | `(tactic| walk_at "call builtin:str.lower") => `(tactic| (k_here; (with_reducible show wpAny _ _ (call (Value.builtin "str.lower") [Value.str (S _) _]) _ _ _); (refine SCL.lower (by rw [S_length]; simp only [List.length_cons, List.length_nil]; omega) ?_); intro _))

set_option maxHeartbeats 8000000 in
theorem sub_claim {w : World} {mean : ExcName → Option Value} {mg mb : Str → Option Value} (x y : Nat) (tx ty : Tok) :
    Clm PySem.Challenge.rw_ny0069_01.prog w (hd.heap_39 w.params) hd.view_39 loose39 mean mg mb 29 [.str (S [x]) tx, .str (S [y]) ty] (fun v => ∃ t, v = .int (cost x y) t) 5 := by
  w_top off
  k_fill
  intro dp un gd cn cs a ccd cl outer A₀ base h₀ L m s Q E B F X T hk hd hu hret
  refine wpAny_call ?_
  k_dflt cell_enter
  k_steps
  · rename_i hc
    have e : x = y := by have := S_inj.mp (eq_of_beq hc); simpa using this
    exact hret _ _ _ ⟨_, by rw [cost, if_pos e]; rfl⟩ (by assumption : Fr s.heap _ _ _).keep
  · rename_i hc _ _ hc2
    have e : x ≠ y := fun e => by subst e; simp at hc
    exact hret _ _ _ ⟨_, by rw [cost, if_neg e, if_pos (eq_of_beq hc2)]; rfl⟩ (by assumption : Fr s.heap _ _ _).keep
  · rename_i hc _ _ hc2
    have e : x ≠ y := fun e => by subst e; simp at hc
    have e2 : Txt.lower (S [x]) ≠ Txt.lower (S [y]) := fun e => by rw [e] at hc2; simp at hc2
    exact hret _ _ _ ⟨_, by rw [cost, if_neg e, if_neg e2]; rfl⟩ (by assumption : Fr s.heap _ _ _).keep
end Mine

-- part Cap
namespace Mine
open PySem PySem.W PySem.Calls PyProof.Rows
set_option maxRecDepth 100000
local macro_rules | `(tactic| cell_enter) => `(tactic| (refine' enter_own ?k1 ?k2 ?k3 ?k5 ?kA ?kF ?kK ?k6 ?k7 ?k8 ?k9 ?kB ?_ ?c2 ?c3 ?c4 ?c5; (case kA => exact rfl); (case kF => exact rfl); (case kK => assumption); (case k1 => k_asm); (case k2 => k_asm); (case k3 => k_asm); (case k5 => k_asm); (case k6 => k_is); (case k7 => k_is); (case k8 => ktr_room); (case k9 => first | exact BindsTo.of_eq rfl | exact binds_K (by k_in) rfl (by k_is) rfl rfl rfl); (case c5 => decide); (case kB => exact locs rfl); (case c2 => exact rfl); (case c3 => exact rfl); (case c4 => exact rfl); k_whole; intro L' h' F' N' B' X' T'; (try dsimp only); (try k_fold)))
local macro_rules | `(tactic| tb_start) => `(tactic| ((try simp only [List.length_drop, List.length_take, List.length_append, List.length_cons, List.length_nil, List.length_map, List.length_range]); omega))
local macro_rules | `(tactic| walk_at "exec While") => `(tactic| (refine Halt.mk ?_))
local macro_rules | `(tactic| walk_at "eval ListComp") => `(tactic| (refine Halt.mk ?_))
local macro_rules | `(tactic| walk_at "exec Assign cons ListComp") => `(tactic| (refine Halt.mk ?_))
local macro_rules | `(tactic| walk_at "eval Name") => `(tactic| (k_here; (with_reducible show wpAny _ _ (eval (Expr.Name _ _) (envOf _ _ _ _ _)) _ _ _); k_dflt (refine' ld ?k1 ?k2 ?_; (case k1 => k_asm); (case k2 => assumption); k_whole)))
local macro_rules | `(tactic| walk_at "subscriptTail Name Slice str ref") => `(tactic| (k_here; (with_reducible show wpAny _ _ (subscriptTail _ (Expr.Slice none none none _) (Value.str (S _) _) _) _ _ _); refine r_nn (s := ⟨_, _, _, _, _⟩) (by k_asm) (by k_asm) (by tb_start) ?_; intro h' t' k' F' N'; (try k_sweep)))
local macro_rules | `(tactic| walk_at "subscriptTail Name Slice str ref") => `(tactic| (k_here; (with_reducible show wpAny _ _ (subscriptTail _ (Expr.Slice none (some _) none _) (Value.str (S _) _) _) _ _ _); first | (refine r_orSlice (s := ⟨_, _, _, _, _⟩) (by k_asm) (by k_asm) (by tb_start) (by tb_start) ?_; intro h' t' k' F' N'; (try k_sweep)) | (refine r_ns (s := ⟨_, _, _, _, _⟩) (by k_asm) (by k_asm) (by tb_start) (by tb_start) ?_; intro h' t' k' F' N'; (try k_sweep)) | (refine r_ns_neg (s := ⟨_, _, _, _, _⟩) (by k_asm) (by k_asm) (by tb_start) (by tb_start) ?_; intro h' t' k' F' N'; (try k_sweep)) | (refine r_nn (s := ⟨_, _, _, _, _⟩) (by k_asm) (by k_asm) (by tb_start) ?_; intro h' t' k' F' N'; (try k_sweep))))
local macro_rules | `(tactic| walk_at "subscriptTail Name Slice str ref") => `(tactic| (k_here; (with_reducible show wpAny _ _ (subscriptTail _ (Expr.Slice (some _) none none _) (Value.str (S _) _) _) _ _ _); refine r_sn (s := ⟨_, _, _, _, _⟩) (by k_asm) (by k_asm) (by tb_start) (by tb_start) ?_; intro h' t' k' F' N'; (try k_sweep)))
local macro_rules | `(tactic| walk_at "subscriptTail Name Slice str ref") => `(tactic| (k_here; (with_reducible show wpAny _ _ (subscriptTail _ (Expr.Slice (some _) (some _) none _) (Value.str (S _) _) _) _ _ _); refine r_ss (s := ⟨_, _, _, _, _⟩) (by k_asm) (by k_asm) (by tb_start) (by tb_start) (by tb_start) ?_; intro h' t' k' F' N'; (try k_sweep)))
local macro_rules | `(tactic| walk_at "subscriptTail Name Name str int") => `(tactic| (k_here; (with_reducible show wpAny _ _ (subscriptTail _ _ (Value.str (S _) _) (Value.int _ _)) _ _ _); first | (refine r_item (by tb_start) (by tb_start) (by tb_start) ?_; intro t' k') | (refine r_item_neg (by tb_start) (by tb_start) (by tb_start) ?_; intro t' k')))
local macro_rules | `(tactic| walk_at "subscriptTail Name BinOp str int") => `(tactic| (k_here; (with_reducible show wpAny _ _ (subscriptTail _ _ (Value.str (S _) _) (Value.int _ _)) _ _ _); first | (refine r_item (by tb_start) (by tb_start) (by tb_start) ?_; intro t' k') | (refine r_item_neg (by tb_start) (by tb_start) (by tb_start) ?_; intro t' k')))
local macro_rules | `(tactic| walk_at "call builtin:len") => `(tactic| (k_here; (with_reducible show wpAny _ _ (call (Value.builtin "len") [Value.str (S _) _]) _ _ _); refine r_len (by tb_start) ?_; intro t' k'))
local macro_rules | `(tactic| walk_at "truthy str") => `(tactic| (k_here; (with_reducible show wpAny _ _ (truthy (Value.str (S _) _)) _ _ _); refine r_truthy2 (by tb_start) ?_ ?_ <;> (intro hT' k'; (try simp only [List.length_drop, List.length_take] at hT'); (try (exfalso; omega)))))
local macro_rules | `(tactic| walk_at "binaryOp Add str str") => `(tactic| (k_here; (with_reducible show wpAny _ _ (binaryOp Operator.Add (Value.str (S _) _) (Value.str (S _) _)) _ _ _); refine r_add (by tb_start) ?_; intro t' k'))
local macro_rules | `(tactic| walk_at "inplaceOp Add str str") => `(tactic| (k_here; (with_reducible show wpAny _ _ (inplaceOp Operator.Add (Value.str (S _) _) (Value.str (S _) _)) _ _ _); refine r_iadd (by tb_start) ?_; intro t' k'))
local macro_rules | `(tactic| walk_at "loadName") => `(tactic| (k_here; k_dflt (refine' ldn ?k1 ?k2 ?_; (case k1 => k_asm); (case k2 => first | exact rfl | assumption); k_whole)))
local macro_rules | `(tactic| walk_at "call builtin:str.upper") => `(tactic| (k_here; (with_reducible show wpAny _ _ (call (Value.builtin "str.upper") [Value.str (S [_]) _]) _ _ _); refine r_upper (getD_lt (by assumption)) ?_; intro t' k'))
local macro_rules | `(tactic| walk_at "call builtin:str.lower") => `(tactic| (k_here; (with_reducible show wpAny _ _ (call (Value.builtin "str.lower") [Value.str (S [_]) _]) _ _ _); refine r_lower (getD_lt (by assumption)) ?_; intro t' k'))
local macro_rules | `(tactic| walk_at "eval BoolOp") => `(tactic| (k_here; (with_reducible show wpAny _ _ (eval (Expr.BoolOp BoolOp.Or [Expr.Name _ _, Expr.Constant Const.none _ _] _) _) _ _ _); k_dflt (refine' r_orNone ?k1 ?k2 ?_; (case k1 => k_asm); (case k2 => first | exact rfl | assumption); k_whole)))
local macro_rules | `(tactic| walk_at "exec If") => `(tactic| (k_here; (with_reducible show wpAny _ _ (exec (Stmt.If _ [Stmt.Assign [Expr.Tuple _ _ _] _ _] [] _) _) _ _ _); refine Halt.mk ?_))
local macro_rules | `(tactic| walk_at "pyIter ref") => `(tactic| (k_here; refine Halt.mk ?_))
local macro_rules | `(tactic| walk_at "call ref") => `(tactic| (k_here; (with_reducible show wpAny _ _ (call (Value.ref 29) [Value.str (S [_]) _, Value.str (S [_]) _]) _ _ _); k_dflt (refine' use_clm (sub_claim _ _ _ _) ?k1 ?k2 ?k3 ?k5 ?k6 ?kK ?kd ?ku ?_; (case k1 => k_asm); (case k2 => k_asm); (case k3 => k_asm); (case k5 => k_asm); (case k6 => k_asm); (case kK => first | exact rfl | assumption); (case kd => ktr_room); (case ku => ktr_units); k_whole); (intro v' h' tk' hp' F' N'); (obtain ⟨t', hv'⟩ := hp'); subst hv'; (try dsimp only); (try k_sweep)))
local macro_rules | `(tactic| walk_at "setItem ref int") => `(tactic| (k_here; (with_reducible show wpAny _ _ (setItem (Value.ref _) (Value.int _ _) (Value.int _ _)) _ _ _); k_dflt (refine' ksa_set ?k1 ?k2 ?k3 ?k4 ?k5 ?k6 ?k7 ?_; (case k1 => k_asm); (case k2 => k_asm); (case k3 => exact Upd.head (by assumption)); (case k4 => with_reducible assumption); (case k5 => tb_start); (case k6 => tb_start); (case k7 => tb_start); k_whole); intro h' F' N' hi' hl' hs'; (try k_sweep)))
local macro_rules | `(tactic| walk_at "subscriptTail Name Name ref int") => `(tactic| (k_here; (with_reducible show wpAny _ _ (subscriptTail _ _ (Value.ref _) (Value.int _ _)) _ _ _); k_dflt (refine' ksa_sub ?k1 ?k2 ?k3 ?k4 ?k5 ?k6 ?_ ?k7; (case k1 => k_asm); (case k2 => k_mem); (case k3 => with_reducible assumption); (case k4 => tb_start); (case k5 => tb_start); (case k6 => tb_start); (case k7 => with_unfolding_all rfl); k_whole); intro t'))
local macro_rules | `(tactic| tb_rel) => `(tactic| repeat' (first | (k_unfold; (try dsimp only)) | walk1 | (dsimp only; walk1) | fail "no step"))
local macro_rules | `(tactic| walk_at "InvEndN") => `(tactic| (refine Halt.mk ?_))
/-- great letters at the beginning and right behind each mark, small letters else -/
def cap (mk : List Nat) (g : Bool) (l : List Nat) : List Nat :=
  match l with
  | [] => []
  | x :: r => if 0 < mk.length ∧ (x :: r).take mk.length = mk then mk ++ cap mk true ((x :: r).drop mk.length) else (if g then up x else low x) :: cap mk false r
termination_by l.length
decreasing_by
  · rename_i h; simp only [List.length_drop, List.length_cons]; omega
  · simp

theorem cap_nil (mk : List Nat) (g : Bool) : cap mk g [] = [] := by rw [cap]
theorem cap_mark {mk l : List Nat} {g : Bool} (h0 : 0 < mk.length) (h : l.take mk.length = mk) : cap mk g l = mk ++ cap mk true (l.drop mk.length) := by
  cases l with
  | nil => rw [List.take_nil] at h; rw [← h] at h0; exact absurd h0 (Nat.lt_irrefl _)
  | cons x r => rw [cap, if_pos ⟨h0, h⟩]
theorem cap_sign {mk r : List Nat} {x : Nat} {g : Bool} (h : ¬ (x :: r).take mk.length = mk) : cap mk g (x :: r) = (if g then up x else low x) :: cap mk false r := by
  rw [cap, if_neg (fun e => h e.2)]
theorem drop_at {l : List Nat} {i : Nat} (h : i < l.length) : l.drop i = l.getD i 0 :: l.drop (i + 1) := by
  rw [List.drop_eq_getElem_cons h, List.getD_eq_getElem?_getD, List.getElem?_eq_getElem h]; rfl

theorem capStepMark {tx mk c R : List Nat} {g : Bool} {p : Int} (hm0 : 0 < mk.length) (hp0 : 0 ≤ p) (hp : p < tx.length) (hc : c.length = p.toNat) (hcap : c ++ cap mk g (tx.drop p.toNat) = R)
    (hb : (S ((tx.drop p.toNat).take (p + (mk.length : Int) - p).toNat) == S mk) = true) :
    0 ≤ p + (mk.length : Int) ∧ p + (mk.length : Int) ≤ tx.length ∧ (c ++ mk).length = (p + (mk.length : Int)).toNat ∧ (c ++ mk) ++ cap mk true (tx.drop (p + (mk.length : Int)).toNat) = R ∧ tx.length - (p + (mk.length : Int)).toNat < tx.length - p.toNat := by
  have e : (p + (mk.length : Int) - p).toNat = mk.length := by omega
  rw [e] at hb
  have hb := S_inj.mp (eq_of_beq hb)
  have hlen : mk.length ≤ tx.length - p.toNat := by
    have := congrArg List.length hb
    simp at this
    omega
  have e2 : (p + (mk.length : Int)).toNat = p.toNat + mk.length := by omega
  refine ⟨by omega, by omega, by simp; omega, ?_, by omega⟩
  rw [← hcap, cap_mark hm0 hb, List.drop_drop, e2, List.append_assoc]

theorem capStepSign {tx mk c R : List Nat} {g : Bool} {p : Int} {y : Nat} (hp0 : 0 ≤ p) (hp : p < tx.length) (hc : c.length = p.toNat) (hcap : c ++ cap mk g (tx.drop p.toNat) = R)
    (hb : (S ((tx.drop p.toNat).take (p + (mk.length : Int) - p).toNat) == S mk) = false) (hy : y = if g = true then up (tx.getD p.toNat 0) else low (tx.getD p.toNat 0)) :
    0 ≤ p + 1 ∧ p + 1 ≤ tx.length ∧ (c ++ [y]).length = (p + 1).toNat ∧ (c ++ [y]) ++ cap mk false (tx.drop (p + 1).toNat) = R ∧ tx.length - (p + 1).toNat < tx.length - p.toNat := by
  have e : (p + (mk.length : Int) - p).toNat = mk.length := by omega
  rw [e] at hb
  have hb : ¬ (tx.drop p.toNat).take mk.length = mk := fun e => by rw [e] at hb; simp at hb
  have e2 : (p + 1).toNat = p.toNat + 1 := by omega
  have hd := drop_at (l := tx) (i := p.toNat) (by omega)
  refine ⟨by omega, by omega, by simp; omega, ?_, by omega⟩
  rw [hd] at hb hcap
  rw [← hcap, cap_sign hb, e2, hy, List.append_assoc]
  rfl

set_option maxHeartbeats 8000000 in
theorem cap_claim {w : World} {mean : ExcName → Option Value} {mg mb : Str → Option Value} (tx mk : List Nat) (tt tm : Tok) (hl : tx.length ≤ 100) (hm : mk.length ≤ 2) (hm0 : 0 < mk.length) (ha : ∀ c ∈ tx, c < 128) :
    Clm PySem.Challenge.rw_ny0069_01.prog w (hd.heap_39 w.params) hd.view_39 loose39 mean mg mb 43 [.str (S tx) tt, .str (S mk) tm] (fun v => ∃ t, v = .str (S (cap mk true tx)) t) 10 := by
  w_top off
  k_fill
  intro dp un gd cn cs a ccd cl outer A₀ base h₀ L m s Q E B F X T hk hd hu hret
  refine wpAny_call ?_
  k_dflt cell_enter
  tb_rel
  refine Halt.out ?_
  refine While_inv (n₀ := tx.length) (fun n m₁ news₁ => news₁ = [] ∧ ∃ (c : List Nat) (g : Bool) (p : Int) (t1 t2 t3 t4 : Tok), m₁ (Str.ofString "text") = some (.str (S tx) t1) ∧ m₁ (Str.ofString "mark") = some (.str (S mk) t2) ∧ m₁ (Str.ofString "capped") = some (.str (S c) t3) ∧ m₁ (Str.ofString "great") = some (.bool g) ∧ m₁ (Str.ofString "place") = some (.int p t4) ∧ 0 ≤ p ∧ p ≤ tx.length ∧ c.length = p.toNat ∧ c ++ cap mk g (tx.drop p.toNat) = cap mk true tx ∧ n = tx.length - p.toNat) (by k_asm) (by k_asm) ?_ ?_
  · exact ⟨rfl, [], true, 0, _, _, _, _, rfl, rfl, rfl, rfl, rfl, by omega, by omega, rfl, rfl, by simp⟩
  · rintro n m₁ news₁ h₁ tk₁ F₁ N₁ ⟨rfl, c, g, p, t1, t2, t3, t4, e1, e2, e3, e4, e5, hp0, hp1, hc, hcap, hn⟩
    tb_rel
    · obtain ⟨q1, q2, q3, q4, q5⟩ := capStepMark hm0 hp0 (by assumption) hc hcap (by assumption)
      rename Fr s.heap _ _ _ => FF; rename News s.heap _ _ _ => NN
      exact WhileStep.intro FF NN (by rw [hn]; exact q5) ⟨rfl, _, _, _, _, _, _, _, e1, e2, rfl, rfl, rfl, q1, q2, q3, q4, rfl⟩
    · obtain ⟨q1, q2, q3, q4, q5⟩ := capStepSign hp0 (by assumption) hc hcap (by assumption) (if_pos (by assumption)).symm
      rename Fr s.heap _ _ _ => FF; rename News s.heap _ _ _ => NN
      exact WhileStep.intro FF NN (by rw [hn]; exact q5) ⟨rfl, _, _, _, _, _, _, _, e1, e2, rfl, rfl, rfl, q1, q2, q3, q4, rfl⟩
    · obtain ⟨q1, q2, q3, q4, q5⟩ := capStepSign hp0 (by assumption) hc hcap (by assumption) (if_neg (by simp only [Bool.not_eq_true]; assumption)).symm
      rename Fr s.heap _ _ _ => FF; rename News s.heap _ _ _ => NN
      exact WhileStep.intro FF NN (by rw [hn]; exact q5) ⟨rfl, _, _, _, _, _, _, _, e1, e2, rfl, rfl, rfl, q1, q2, q3, q4, rfl⟩
    · have e : tx.drop p.toNat = [] := List.drop_of_length_le (by omega)
      rw [e, cap_nil, List.append_nil] at hcap
      exact hret _ _ _ ⟨_, by rw [hcap]⟩ (by assumption : Fr s.heap _ _ _).keep
end Mine

-- part Lev
namespace Mine
open PySem PySem.W PySem.Calls PyProof.Rows
set_option maxRecDepth 100000
local macro_rules | `(tactic| cell_enter) => `(tactic| (refine' enter_own ?k1 ?k2 ?k3 ?k5 ?kA ?kF ?kK ?k6 ?k7 ?k8 ?k9 ?kB ?_ ?c2 ?c3 ?c4 ?c5; (case kA => exact rfl); (case kF => exact rfl); (case kK => assumption); (case k1 => k_asm); (case k2 => k_asm); (case k3 => k_asm); (case k5 => k_asm); (case k6 => k_is); (case k7 => k_is); (case k8 => ktr_room); (case k9 => first | exact BindsTo.of_eq rfl | exact binds_K (by k_in) rfl (by k_is) rfl rfl rfl); (case c5 => decide); (case kB => exact locs rfl); (case c2 => exact rfl); (case c3 => exact rfl); (case c4 => exact rfl); k_whole; intro L' h' F' N' B' X' T'; (try dsimp only); (try k_fold)))
local macro_rules | `(tactic| tb_start) => `(tactic| ((try simp only [List.length_drop, List.length_take, List.length_append, List.length_cons, List.length_nil, List.length_map, List.length_range]); omega))
local macro_rules | `(tactic| walk_at "exec While") => `(tactic| (refine Halt.mk ?_))
local macro_rules | `(tactic| walk_at "eval ListComp") => `(tactic| (refine Halt.mk ?_))
local macro_rules | `(tactic| walk_at "exec Assign cons ListComp") => `(tactic| (refine Halt.mk ?_))
local macro_rules | `(tactic| walk_at "eval Name") => `(tactic| (k_here; (with_reducible show wpAny _ _ (eval (Expr.Name _ _) (envOf _ _ _ _ _)) _ _ _); k_dflt (refine' ld ?k1 ?k2 ?_; (case k1 => k_asm); (case k2 => assumption); k_whole)))
local macro_rules | `(tactic| walk_at "subscriptTail Name Slice str ref") => `(tactic| (k_here; (with_reducible show wpAny _ _ (subscriptTail _ (Expr.Slice none none none _) (Value.str (S _) _) _) _ _ _); refine r_nn (s := ⟨_, _, _, _, _⟩) (by k_asm) (by k_asm) (by tb_start) ?_; intro h' t' k' F' N'; (try k_sweep)))
local macro_rules | `(tactic| walk_at "subscriptTail Name Slice str ref") => `(tactic| (k_here; (with_reducible show wpAny _ _ (subscriptTail _ (Expr.Slice none (some _) none _) (Value.str (S _) _) _) _ _ _); first | (refine r_orSlice (s := ⟨_, _, _, _, _⟩) (by k_asm) (by k_asm) (by tb_start) (by tb_start) ?_; intro h' t' k' F' N'; (try k_sweep)) | (refine r_ns (s := ⟨_, _, _, _, _⟩) (by k_asm) (by k_asm) (by tb_start) (by tb_start) ?_; intro h' t' k' F' N'; (try k_sweep)) | (refine r_ns_neg (s := ⟨_, _, _, _, _⟩) (by k_asm) (by k_asm) (by tb_start) (by tb_start) ?_; intro h' t' k' F' N'; (try k_sweep)) | (refine r_nn (s := ⟨_, _, _, _, _⟩) (by k_asm) (by k_asm) (by tb_start) ?_; intro h' t' k' F' N'; (try k_sweep))))
local macro_rules | `(tactic| walk_at "subscriptTail Name Slice str ref") => `(tactic| (k_here; (with_reducible show wpAny _ _ (subscriptTail _ (Expr.Slice (some _) none none _) (Value.str (S _) _) _) _ _ _); refine r_sn (s := ⟨_, _, _, _, _⟩) (by k_asm) (by k_asm) (by tb_start) (by tb_start) ?_; intro h' t' k' F' N'; (try k_sweep)))
local macro_rules | `(tactic| walk_at "subscriptTail Name Slice str ref") => `(tactic| (k_here; (with_reducible show wpAny _ _ (subscriptTail _ (Expr.Slice (some _) (some _) none _) (Value.str (S _) _) _) _ _ _); refine r_ss (s := ⟨_, _, _, _, _⟩) (by k_asm) (by k_asm) (by tb_start) (by tb_start) (by tb_start) ?_; intro h' t' k' F' N'; (try k_sweep)))
local macro_rules | `(tactic| walk_at "subscriptTail Name Name str int") => `(tactic| (k_here; (with_reducible show wpAny _ _ (subscriptTail _ _ (Value.str (S _) _) (Value.int _ _)) _ _ _); first | (refine r_item (by tb_start) (by tb_start) (by tb_start) ?_; intro t' k') | (refine r_item_neg (by tb_start) (by tb_start) (by tb_start) ?_; intro t' k')))
local macro_rules | `(tactic| walk_at "subscriptTail Name BinOp str int") => `(tactic| (k_here; (with_reducible show wpAny _ _ (subscriptTail _ _ (Value.str (S _) _) (Value.int _ _)) _ _ _); first | (refine r_item (by tb_start) (by tb_start) (by tb_start) ?_; intro t' k') | (refine r_item_neg (by tb_start) (by tb_start) (by tb_start) ?_; intro t' k')))
local macro_rules | `(tactic| walk_at "call builtin:len") => `(tactic| (k_here; (with_reducible show wpAny _ _ (call (Value.builtin "len") [Value.str (S _) _]) _ _ _); refine r_len (by tb_start) ?_; intro t' k'))
local macro_rules | `(tactic| walk_at "truthy str") => `(tactic| (k_here; (with_reducible show wpAny _ _ (truthy (Value.str (S _) _)) _ _ _); refine r_truthy2 (by tb_start) ?_ ?_ <;> (intro hT' k'; (try simp only [List.length_drop, List.length_take] at hT'); (try (exfalso; omega)))))
local macro_rules | `(tactic| walk_at "binaryOp Add str str") => `(tactic| (k_here; (with_reducible show wpAny _ _ (binaryOp Operator.Add (Value.str (S _) _) (Value.str (S _) _)) _ _ _); refine r_add (by tb_start) ?_; intro t' k'))
local macro_rules | `(tactic| walk_at "inplaceOp Add str str") => `(tactic| (k_here; (with_reducible show wpAny _ _ (inplaceOp Operator.Add (Value.str (S _) _) (Value.str (S _) _)) _ _ _); refine r_iadd (by tb_start) ?_; intro t' k'))
local macro_rules | `(tactic| walk_at "loadName") => `(tactic| (k_here; k_dflt (refine' ldn ?k1 ?k2 ?_; (case k1 => k_asm); (case k2 => first | exact rfl | assumption); k_whole)))
local macro_rules | `(tactic| walk_at "call builtin:str.upper") => `(tactic| (k_here; (with_reducible show wpAny _ _ (call (Value.builtin "str.upper") [Value.str (S [_]) _]) _ _ _); refine r_upper (getD_lt (by assumption)) ?_; intro t' k'))
local macro_rules | `(tactic| walk_at "call builtin:str.lower") => `(tactic| (k_here; (with_reducible show wpAny _ _ (call (Value.builtin "str.lower") [Value.str (S [_]) _]) _ _ _); refine r_lower (getD_lt (by assumption)) ?_; intro t' k'))
local macro_rules | `(tactic| walk_at "eval BoolOp") => `(tactic| (k_here; (with_reducible show wpAny _ _ (eval (Expr.BoolOp BoolOp.Or [Expr.Name _ _, Expr.Constant Const.none _ _] _) _) _ _ _); k_dflt (refine' r_orNone ?k1 ?k2 ?_; (case k1 => k_asm); (case k2 => first | exact rfl | assumption); k_whole)))
local macro_rules | `(tactic| walk_at "exec If") => `(tactic| (k_here; (with_reducible show wpAny _ _ (exec (Stmt.If _ [Stmt.Assign [Expr.Tuple _ _ _] _ _] [] _) _) _ _ _); refine Halt.mk ?_))
local macro_rules | `(tactic| walk_at "pyIter ref") => `(tactic| (k_here; refine Halt.mk ?_))
local macro_rules | `(tactic| walk_at "call ref") => `(tactic| (k_here; (with_reducible show wpAny _ _ (call (Value.ref 29) [Value.str (S [_]) _, Value.str (S [_]) _]) _ _ _); k_dflt (refine' use_clm (sub_claim _ _ _ _) ?k1 ?k2 ?k3 ?k5 ?k6 ?kK ?kd ?ku ?_; (case k1 => k_asm); (case k2 => k_asm); (case k3 => k_asm); (case k5 => k_asm); (case k6 => k_asm); (case kK => first | exact rfl | assumption); (case kd => ktr_room); (case ku => ktr_units); k_whole); (intro v' h' tk' hp' F' N'); (obtain ⟨t', hv'⟩ := hp'); subst hv'; (try dsimp only); (try k_sweep)))
local macro_rules | `(tactic| walk_at "setItem ref int") => `(tactic| (k_here; (with_reducible show wpAny _ _ (setItem (Value.ref _) (Value.int _ _) (Value.int _ _)) _ _ _); k_dflt (refine' ksa_set ?k1 ?k2 ?k3 ?k4 ?k5 ?k6 ?k7 ?_; (case k1 => k_asm); (case k2 => k_asm); (case k3 => exact Upd.head (by assumption)); (case k4 => with_reducible assumption); (case k5 => tb_start); (case k6 => tb_start); (case k7 => tb_start); k_whole); intro h' F' N' hi' hl' hs'; (try k_sweep)))
local macro_rules | `(tactic| walk_at "subscriptTail Name Name ref int") => `(tactic| (k_here; (with_reducible show wpAny _ _ (subscriptTail _ _ (Value.ref _) (Value.int _ _)) _ _ _); k_dflt (refine' ksa_sub ?k1 ?k2 ?k3 ?k4 ?k5 ?k6 ?_ ?k7; (case k1 => k_asm); (case k2 => k_mem); (case k3 => with_reducible assumption); (case k4 => tb_start); (case k5 => tb_start); (case k6 => tb_start); (case k7 => with_unfolding_all rfl); k_whole); intro t'))
local macro_rules | `(tactic| tb_rel) => `(tactic| repeat' (first | (k_unfold; (try dsimp only)) | walk1 | (dsimp only; walk1) | fail "no step"))
local macro_rules | `(tactic| walk_at "InvEndN") => `(tactic| (refine Halt.mk ?_))
def PreInv (a b : List Nat) (p : Int) : Prop := 0 ≤ p ∧ p ≤ a.length ∧ p ≤ b.length ∧ a.take p.toNat = b.take p.toNat
def PreEnd (a b : List Nat) (p : Int) : Prop := PreInv a b p ∧ (a.length - p.toNat = 0 ∨ b.length - p.toNat = 0 ∨ a.getD p.toNat 0 ≠ b.getD p.toNat 0)
theorem take_succ_getD (l : List Nat) (i : Nat) (h : i < l.length) : l.take (i + 1) = l.take i ++ [l.getD i 0] := by
  rw [List.take_add_one, List.getD_eq_getElem?_getD, List.getElem?_eq_getElem h]; rfl
theorem pre_step {a b : List Nat} {p : Int} (h : PreInv a b p) (ha : 0 < a.length - p.toNat) (hb : 0 < b.length - p.toNat) (e : (S [a.getD p.toNat 0] == S [b.getD p.toNat 0]) = true) :
    PreInv a b (p + 1) ∧ a.length - (p + 1).toNat < a.length - p.toNat := by
  obtain ⟨h0, h1, h2, h3⟩ := h
  have e' : a.getD p.toNat 0 = b.getD p.toNat 0 := by simpa using S_inj.mp (eq_of_beq e)
  have e1 : (p + 1).toNat = p.toNat + 1 := by omega
  refine ⟨⟨by omega, by omega, by omega, ?_⟩, by omega⟩
  rw [e1, take_succ_getD a _ (by omega), take_succ_getD b _ (by omega), h3, e']
theorem S_ne {x y : Nat} (e : (S [x] == S [y]) = false) : x ≠ y := fun h => by subst h; simp at e

def SufInv (a b : List Nat) (q : Int) : Prop := q ≤ 0 ∧ -q ≤ a.length ∧ -q ≤ b.length ∧ a.drop (a.length - (-q).toNat) = b.drop (b.length - (-q).toNat)
def SufEnd (a b : List Nat) (q : Int) : Prop := SufInv a b q ∧ (a.length - (-q).toNat = 0 ∨ b.length - (-q).toNat = 0 ∨ a.getD (a.length - (-(q - 1)).toNat) 0 ≠ b.getD (b.length - (-(q - 1)).toNat) 0)
theorem suf_step {a b : List Nat} {q : Int} (h : SufInv a b q) (ha : 0 < min (a.length - (-q).toNat) a.length) (hb : 0 < min (b.length - (-q).toNat) b.length) (e : (S [a.getD (a.length - (-(q - 1)).toNat) 0] == S [b.getD (b.length - (-(q - 1)).toNat) 0]) = true) :
    SufInv a b (q - 1) ∧ a.length - (-(q - 1)).toNat < a.length - (-q).toNat := by
  obtain ⟨h0, h1, h2, h3⟩ := h
  have e' := S_inj.mp (eq_of_beq e)
  have e1 : (-(q - 1)).toNat = (-q).toNat + 1 := by omega
  refine ⟨⟨by omega, by omega, by omega, ?_⟩, by omega⟩
  rw [e1] at e' ⊢
  have k1 := drop_at (l := a) (i := a.length - ((-q).toNat + 1)) (by omega)
  have k2 := drop_at (l := b) (i := b.length - ((-q).toNat + 1)) (by omega)
  have k3 : a.length - ((-q).toNat + 1) + 1 = a.length - (-q).toNat := by omega
  have k4 : b.length - ((-q).toNat + 1) + 1 = b.length - (-q).toNat := by omega
  rw [k3] at k1
  rw [k4] at k2
  rw [k1, k2, h3]
  have e'' : a.getD (a.length - ((-q).toNat + 1)) 0 = b.getD (b.length - ((-q).toNat + 1)) 0 := by simpa using e'
  rw [e'']

/-- the least cost from the first i signs of V to the first j signs of U, row by row -/
def dpD (U V : List Nat) : Nat → Nat → Nat
  | 0 => fun j => 2 * j
  | i + 1 => fun j => Nat.rec (2 * (i + 1)) (fun j r => min (min r (dpD U V i (j + 1)) + 2) (dpD U V i j + cost (V.getD i 0) (U.getD j 0))) j
theorem dp_zero (U V : List Nat) (j : Nat) : dpD U V 0 j = 2 * j := rfl
theorem dp_left (U V : List Nat) (i : Nat) : dpD U V i 0 = 2 * i := by cases i <;> rfl
theorem dp_succ (U V : List Nat) (i j : Nat) : dpD U V (i + 1) (j + 1) = min (min (dpD U V (i + 1) j) (dpD U V i (j + 1)) + 2) (dpD U V i j + cost (V.getD i 0) (U.getD j 0)) := rfl
theorem cost_le (c d : Nat) : cost c d ≤ 2 := by unfold cost; split <;> (try split) <;> omega

/-- the row while the i-th sign is taken: the first j places are new -/
def mixRow (U V : List Nat) (i j : Nat) : List Int := (List.range U.length).map fun (k : Nat) => if k < j then (dpD U V (i + 1) (k + 1) : Int) else (dpD U V i (k + 1) : Int)
theorem mix_length (U V : List Nat) (i j : Nat) : (mixRow U V i j).length = U.length := by simp [mixRow]
theorem mix_get {U V : List Nat} {i j : Nat} (h : j < U.length) : (mixRow U V i j).getD j 0 = (dpD U V i (j + 1) : Int) := by
  unfold mixRow
  rw [List.getD_eq_getElem?_getD, List.getElem?_map, List.getElem?_range h]
  simp
theorem mix_set {U V : List Nat} {i j : Nat} (h : j < U.length) : (mixRow U V i j).set j (dpD U V (i + 1) (j + 1) : Int) = mixRow U V i (j + 1) := by
  apply List.ext_getElem
  · simp [mixRow]
  · intro k h1 h2
    rw [List.getElem_set]
    simp only [mixRow, List.getElem_map, List.getElem_range]
    by_cases e : j = k
    · subst e; rw [if_pos rfl, if_pos (by omega)]
    · rw [if_neg e]
      by_cases e2 : k < j
      · rw [if_pos e2, if_pos (by omega)]
      · rw [if_neg e2, if_neg (by omega)]
theorem mix_start (U V : List Nat) : ((List.range U.length).map fun (j : Nat) => 2 * ((j : Int) + 1)) = mixRow U V 0 0 := by
  unfold mixRow
  apply List.map_congr_left
  intro k _
  rw [if_neg (Nat.not_lt_zero k), dp_zero]
  omega
theorem mix_next (U V : List Nat) (i : Nat) : mixRow U V i U.length = mixRow U V (i + 1) 0 := by
  unfold mixRow
  apply List.map_congr_left
  intro k hk
  rw [if_pos (List.mem_range.mp hk), if_neg (Nat.not_lt_zero k)]

/-- one step of the inner loop -/
theorem dp_step {U V : List Nat} {i j : Nat} {r d : Int} (hr : r = if j = 0 then 2 * (i : Int) else (dpD U V (i + 1) j : Int)) (hd : d = (dpD U V i j : Int)) :
    min (min r (dpD U V i (j + 1) : Int) + 2) (d + (cost (V.getD i 0) (U.getD j 0) : Int)) = (dpD U V (i + 1) (j + 1) : Int) := by
  rw [dp_succ]
  have hc := cost_le (V.getD i 0) (U.getD j 0)
  have hl := dp_left U V i
  have hl2 := dp_left U V (i + 1)
  by_cases e : j = 0
  · subst e
    rw [if_pos rfl] at hr
    omega
  · rw [if_neg e] at hr
    omega

theorem stepX_eq {U V : List Nat} {i j : Nat} {r d e : Int} (hr : r = if j = 0 then 2 * (i : Int) else (dpD U V (i + 1) j : Int)) (hd : d = (dpD U V i j : Int)) (he : e = (dpD U V i (j + 1) : Int)) :
    (if d + (cost (V.getD i 0) (U.getD ((j : Int)).toNat 0) : Int) < (if e < r then e else r) + 2 then d + (cost (V.getD i 0) (U.getD ((j : Int)).toNat 0) : Int) else (if e < r then e else r) + 2) = (dpD U V (i + 1) (j + 1) : Int) := by
  rw [← dp_step hr hd, he, Int.toNat_natCast]
  split <;> split <;> omega
theorem hi_next {U V : List Nat} {i j : Nat} {us : List Value} {X : Int} (hj : j < U.length) (key : X = (dpD U V (i + 1) (j + 1) : Int)) (h : IntsAre us ((mixRow U V i j).set ((j : Int)).toNat X)) : IntsAre us (mixRow U V i (j + 1)) := by
  rw [← mix_set hj, ← key]; exact h
theorem mix_get' {U V : List Nat} {i j : Nat} (h : j < U.length) : (mixRow U V i j).getD ((j : Int)).toNat 0 = (dpD U V i (j + 1) : Int) := mix_get h
theorem mn_step {U V : List Nat} {i j : Nat} {mn X : Int} (hmn : ∀ k, k < j → mn ≤ (dpD U V (i + 1) (k + 1) : Int)) (key : X = (dpD U V (i + 1) (j + 1) : Int)) (h : X < mn) : ∀ k, k < j + 1 → X ≤ (dpD U V (i + 1) (k + 1) : Int) := by
  intro k hk
  by_cases e : k = j
  · subst e; omega
  · have := hmn k (by omega); omega
theorem mn_stay {U V : List Nat} {i j : Nat} {mn X : Int} (hmn : ∀ k, k < j → mn ≤ (dpD U V (i + 1) (k + 1) : Int)) (key : X = (dpD U V (i + 1) (j + 1) : Int)) (h : ¬ X < mn) : ∀ k, k < j + 1 → mn ≤ (dpD U V (i + 1) (k + 1) : Int) := by
  intro k hk
  by_cases e : k = j
  · subst e; omega
  · exact hmn k (by omega)
theorem r_step {j : Nat} {X Y Z : Int} (key : X = Y) : X = if j + 1 = 0 then Z else Y := by rw [if_neg (Nat.succ_ne_zero j)]; exact key
theorem mem_own {x : Addr × Obj} {own own2 : List (Addr × Obj)} : (∀ p ∈ x :: own, p ∈ x :: (own ++ own2)) ∧ ∀ p ∈ own2, p ∈ x :: (own ++ own2) :=
  ⟨fun p hp => by
    rcases List.mem_cons.mp hp with h | h
    · rw [h]; exact .head _
    · exact .tail _ (List.mem_append.mpr (.inl h)), fun p hp => .tail _ (List.mem_append.mpr (.inr hp))⟩

/-- the two texts less what they share in front and behind -/
def Strip (a b a2 b2 : List Nat) : Prop := ∃ (p q : Int) (a1 b1 : List Nat), PreEnd a b p ∧ a1 = a.drop p.toNat ∧ b1 = b.drop p.toNat ∧ SufEnd a1 b1 q ∧ a2 = a1.take (a1.length - (-q).toNat) ∧ b2 = b1.take (b1.length - (-q).toNat)

/-- what the distance function hands back, way by way -/
inductive LevOut (a b : List Nat) (c : Int) : Int → Prop
  | same : a = b → LevOut a b c 0
  | nil (a2 b2 : List Nat) : Strip a b a2 b2 → (a2 = [] ∨ b2 = []) → LevOut a b c (2 * ((a2.length : Int) + (b2.length : Int)))
  | long (a2 b2 : List Nat) : Strip a b a2 b2 → a2 ≠ [] → b2 ≠ [] → (40 < a2.length ∨ 40 < b2.length) → LevOut a b c (c + 1)
  | far (a2 b2 U V : List Nat) : Strip a b a2 b2 → a2 ≠ [] → b2 ≠ [] → ((U = a2 ∧ V = b2) ∨ (U = b2 ∧ V = a2)) → U.length ≤ V.length → c < ((V.length : Int) - (U.length : Int)) * 2 → LevOut a b c (c + 1)
  | early (a2 b2 U V : List Nat) (i : Nat) : Strip a b a2 b2 → a2 ≠ [] → b2 ≠ [] → ((U = a2 ∧ V = b2) ∨ (U = b2 ∧ V = a2)) → i < V.length → (∀ k, k < U.length → c < (dpD U V (i + 1) (k + 1) : Int)) → LevOut a b c (c + 1)
  | whole (a2 b2 U V : List Nat) : Strip a b a2 b2 → a2 ≠ [] → b2 ≠ [] → ((U = a2 ∧ V = b2) ∨ (U = b2 ∧ V = a2)) → LevOut a b c (dpD U V V.length U.length : Int)

theorem ne_nil_of {l : List Nat} (h : 0 < l.length) : l ≠ [] := fun e => by subst e; exact absurd h (Nat.lt_irrefl _)
theorem nil_of {l : List Nat} (h : l.length = 0) : l = [] := List.length_eq_zero_iff.mp h

set_option maxHeartbeats 8000000 in
theorem lev_claim {w : World} {mean : ExcName → Option Value} {mg mb : Str → Option Value} (a b : List Nat) (c : Int) (ta tb tc : Tok) (hla : a.length ≤ 100) (hlb : b.length ≤ 100) :
    Clm PySem.Challenge.rw_ny0069_01.prog w (hd.heap_39 w.params) hd.view_39 loose39 mean mg mb 36 [.str (S a) ta, .str (S b) tb, .int c tc] (fun v => ∃ r t, v = .int r t ∧ LevOut a b c r) 10 := by
  k_with_none
  k_with "call type:list" => (k_dflt (refine' r_evens ?k0 ?k1 ?k2 ?k3 ?k4 ?_; (case k0 => rfl); (case k1 => k_asm); (case k2 => k_asm); (case k3 => assumption); (case k4 => tb_start); k_whole); intro Drow urow crow hrow tkrow F' N' l1 hIrow; (try k_lt l1); (try k_sweep))
  w_top off
  k_fill
  intro dp un gd cn cs ad ccd cl outer A₀ base h₀ L m s Q E B F X T hk hd hu hret
  refine wpAny_call ?_
  k_dflt cell_enter
  tb_rel
  · exact hret _ _ _ ⟨_, _, rfl, .same (S_inj.mp (eq_of_beq (by assumption)))⟩ (by assumption : Fr s.heap _ _ _).keep
  · refine Halt.out ?_
    refine aft_mono (fun m' => ∃ (p : Int) (t1 t2 t3 t4 : Tok), m' (Str.ofString "a") = some (.str (S a) t1) ∧ m' (Str.ofString "b") = some (.str (S b) t2) ∧ m' (Str.ofString "max_cost") = some (.int c t3) ∧ m' (Str.ofString "pre") = some (.int p t4) ∧ PreEnd a b p) (news := []) (by assumption : Fr s.heap _ _ _) (by assumption) ?_ ?_
    · refine While_inv (n₀ := a.length) (fun n m₁ news₁ => news₁ = [] ∧ ∃ (p : Int) (t1 t2 t3 t4 : Tok), m₁ (Str.ofString "a") = some (.str (S a) t1) ∧ m₁ (Str.ofString "b") = some (.str (S b) t2) ∧ m₁ (Str.ofString "max_cost") = some (.int c t3) ∧ m₁ (Str.ofString "pre") = some (.int p t4) ∧ PreInv a b p ∧ n = a.length - p.toNat) (by k_asm) (by k_asm) ?_ ?_
      · exact ⟨rfl, 0, _, _, _, _, rfl, rfl, rfl, rfl, ⟨by omega, by omega, by omega, by simp⟩, by simp⟩
      · rintro n m₁ news₁ h₁ tk₁ F₁ N₁ ⟨rfl, p, t1, t2, t3, t4, e1, e2, e3, e4, hP, hn⟩
        have hP' := hP
        obtain ⟨hp0, hp1, hp2, _⟩ := hP'
        tb_rel
        all_goals (rename Fr s.heap _ _ _ => FF; rename News s.heap _ _ _ => NN)
        · obtain ⟨q1, q2⟩ := pre_step hP (by assumption) (by assumption) (by assumption)
          exact WhileStep.intro FF NN (by rw [hn]; exact q2) ⟨rfl, _, _, _, _, _, e1, e2, e3, rfl, q1, rfl⟩
        · exact Aft.intro FF NN ⟨_, _, _, _, _, e1, e2, e3, e4, hP, .inr (.inr (S_ne (by assumption)))⟩
        · exact Aft.intro FF NN ⟨_, _, _, _, _, e1, e2, e3, e4, hP, .inr (.inl (by assumption))⟩
        · exact Aft.intro FF NN ⟨_, _, _, _, _, e1, e2, e3, e4, hP, .inl (by assumption)⟩
    · rintro h1 tk1 m1 F1 N1 ⟨p, t1, t2, t3, t4, e1, e2, e3, e4, hP⟩
      have hP' := hP
      obtain ⟨⟨hp0, hp1, hp2, _⟩, _⟩ := hP'
      tb_rel
      refine Halt.out ?_
      obtain ⟨a1, ha1⟩ : ∃ x, x = a.drop p.toNat := ⟨_, rfl⟩
      obtain ⟨b1, hb1⟩ : ∃ x, x = b.drop p.toNat := ⟨_, rfl⟩
      have hla1 : a1.length ≤ 100 := by rw [ha1, List.length_drop]; omega
      have hlb1 : b1.length ≤ 100 := by rw [hb1, List.length_drop]; omega
      refine aft_mono (fun m' => ∃ (q : Int) (t1 t2 t3 t4 : Tok), m' (Str.ofString "a") = some (.str (S a1) t1) ∧ m' (Str.ofString "b") = some (.str (S b1) t2) ∧ m' (Str.ofString "max_cost") = some (.int c t3) ∧ m' (Str.ofString "post") = some (.int q t4) ∧ SufEnd a1 b1 q) (news := []) (by assumption : Fr s.heap _ _ _) (by assumption) ?_ ?_
      · refine While_inv (n₀ := a1.length) (fun n m₁ news₁ => news₁ = [] ∧ ∃ (q : Int) (t1 t2 t3 t4 : Tok), m₁ (Str.ofString "a") = some (.str (S a1) t1) ∧ m₁ (Str.ofString "b") = some (.str (S b1) t2) ∧ m₁ (Str.ofString "max_cost") = some (.int c t3) ∧ m₁ (Str.ofString "post") = some (.int q t4) ∧ SufInv a1 b1 q ∧ n = a1.length - (-q).toNat) (by k_asm) (by k_asm) ?_ ?_
        · exact ⟨rfl, 0, _, _, _, _, by rw [ha1]; rfl, by rw [hb1]; rfl, e3, rfl, ⟨by omega, by omega, by omega, by simp⟩, by simp⟩
        · rintro n m₁ news₁ h₁ tk₁ F₁ N₁ ⟨rfl, q, t1, t2, t3, t4, e1, e2, e3, e4, hP, hn⟩
          have hP' := hP
          obtain ⟨hp0, hp1, hp2, _⟩ := hP'
          tb_rel
          all_goals (rename Fr s.heap _ _ _ => FF; rename News s.heap _ _ _ => NN)
          · obtain ⟨q1, q2⟩ := suf_step hP (by assumption) (by assumption) (by assumption)
            exact WhileStep.intro FF NN (by rw [hn]; exact q2) ⟨rfl, _, _, _, _, _, e1, e2, e3, rfl, q1, rfl⟩
          · exact Aft.intro FF NN ⟨_, _, _, _, _, e1, e2, e3, e4, hP, .inr (.inr (S_ne (by assumption)))⟩
          · exact Aft.intro FF NN ⟨_, _, _, _, _, e1, e2, e3, e4, hP, .inr (.inl (by omega))⟩
          · exact Aft.intro FF NN ⟨_, _, _, _, _, e1, e2, e3, e4, hP, .inl (by omega)⟩
      · rintro h2 tk2 m2 F2 N2 ⟨q, t1, t2, t3, t4, e1, e2, e3, e4, hS⟩
        have hS' := hS
        obtain ⟨⟨hq0, hq1, hq2, _⟩, _⟩ := hS'
        obtain ⟨a2, ha2⟩ : ∃ x, x = a1.take (a1.length - (-q).toNat) := ⟨_, rfl⟩
        obtain ⟨b2, hb2⟩ : ∃ x, x = b1.take (b1.length - (-q).toNat) := ⟨_, rfl⟩
        have hna2 : a2.length = min (a1.length - (-q).toNat) a1.length := by rw [ha2, List.length_take]
        have hnb2 : b2.length = min (b1.length - (-q).toNat) b1.length := by rw [hb2, List.length_take]
        have hSt : Strip a b a2 b2 := ⟨p, q, a1, b1, hP, ha1, hb1, hS, ha2, hb2⟩
        tb_rel
        · have q1 : (40 : Int) < (a1.take (a1.length - (-q).toNat)).length := by assumption
          rw [← ha2] at q1
          exact hret _ _ _ ⟨_, _, rfl, .long a2 b2 hSt (ne_nil_of (by rw [hna2]; assumption)) (ne_nil_of (by rw [hnb2]; assumption)) (.inl (by omega))⟩ (by assumption : Fr s.heap _ _ _).keep
        · have q1 : (40 : Int) < (b1.take (b1.length - (-q).toNat)).length := by assumption
          rw [← hb2] at q1
          exact hret _ _ _ ⟨_, _, rfl, .long a2 b2 hSt (ne_nil_of (by rw [hna2]; assumption)) (ne_nil_of (by rw [hnb2]; assumption)) (.inr (by omega))⟩ (by assumption : Fr s.heap _ _ _).keep
        · have q1 : ¬ (40 : Int) < (a1.take (a1.length - (-q).toNat)).length := by assumption
          have q2 : ¬ (40 : Int) < (b1.take (b1.length - (-q).toNat)).length := by assumption
          rw [← ha2] at q1
          rw [← hb2] at q2
          have q3 : 0 < a2.length := by rw [hna2]; assumption
          have q4 : 0 < b2.length := by rw [hnb2]; assumption
          refine Halt.out ?_
          refine aft_mono (fun m' => ∃ (U V : List Nat) (t1 t2 t3 : Tok), m' (Str.ofString "a") = some (.str (S U) t1) ∧ m' (Str.ofString "b") = some (.str (S V) t2) ∧ m' (Str.ofString "max_cost") = some (.int c t3) ∧ ((U = a2 ∧ V = b2) ∨ (U = b2 ∧ V = a2)) ∧ U.length ≤ V.length) (news := []) (by assumption : Fr s.heap _ _ _) (by assumption) ?_ ?_
          · refine wpAny_If ?_
            tb_rel
            all_goals (rename Fr s.heap _ _ _ => FF)
            · exact Aft.intro FF News.nil ⟨_, _, _, _, _, rfl, rfl, e3, .inr ⟨hb2.symm, ha2.symm⟩, by omega⟩
            · exact Aft.intro FF News.nil ⟨_, _, _, _, _, rfl, rfl, e3, .inl ⟨ha2.symm, hb2.symm⟩, by omega⟩
          · rintro h3 tk3 m3 F3 N3 ⟨U, V, t1, t2, t3, e1, e2, e3, hUV, hle⟩
            have hU : 0 < U.length ∧ U.length ≤ 40 := by rcases hUV with ⟨rfl, rfl⟩ | ⟨rfl, rfl⟩ <;> omega
            have hV : 0 < V.length ∧ V.length ≤ 40 := by rcases hUV with ⟨rfl, rfl⟩ | ⟨rfl, rfl⟩ <;> omega
            obtain ⟨hU0, hU1⟩ := hU
            obtain ⟨hV0, hV1⟩ := hV
            tb_rel
            · exact hret _ _ _ ⟨_, _, rfl, .far a2 b2 U V hSt (ne_nil_of q3) (ne_nil_of q4) hUV hle (by assumption)⟩ (by assumption : Fr s.heap _ _ _).keep
            · refine Halt.out ?_
              rw [mix_start U V] at hIrow
              refine r_range (b₀ := V.length) (fun i m₁ news₁ => ∃ (us : List Value) (r : Int) (t1 t2 t3 t4 : Tok), news₁ = [(Drow, listOf (List.toArray us) crow)] ∧ IntsAre us (mixRow U V i 0) ∧ m₁ (Str.ofString "a") = some (.str (S U) t1) ∧ m₁ (Str.ofString "b") = some (.str (S V) t2) ∧ m₁ (Str.ofString "max_cost") = some (.int c t3) ∧ m₁ (Str.ofString "row") = some (.ref Drow) ∧ m₁ (Str.ofString "result") = some (.int r t4) ∧ (0 < i → r = (dpD U V i U.length : Int))) rfl (by assumption) (by omega) (by k_asm) (by k_asm) ?_ ?_ ?_
              · exact ⟨urow, 0, _, _, _, _, rfl, hIrow, e1, e2, e3, rfl, rfl, fun h => absurd h (Nat.lt_irrefl _)⟩
              · rintro i t9 m₁ news₁ h₁ tk₁ own hi hoff ⟨us, r, t1, t2, t3, t4, rfl, hI, e1, e2, e3, e4, e5, hr⟩ F₁ N₁
                tb_rel
                refine Halt.out ?_
                refine r_range (b₀ := U.length) (fun j m₁ news₁ => ∃ (us : List Value) (r d mn : Int) (t1 t2 t3 t4 t5 t6 t7 : Tok), news₁ = (Drow, listOf (List.toArray us) crow) :: own ∧ IntsAre us (mixRow U V i j) ∧ m₁ (Str.ofString "a") = some (.str (S U) t1) ∧ m₁ (Str.ofString "b") = some (.str (S V) t2) ∧ m₁ (Str.ofString "max_cost") = some (.int c t3) ∧ m₁ (Str.ofString "row") = some (.ref Drow) ∧ m₁ (Str.ofString "result") = some (.int r t4) ∧ m₁ (Str.ofString "distance") = some (.int d t5) ∧ m₁ (Str.ofString "minimum") = some (.int mn t6) ∧ m₁ (Str.ofString "bchar") = some (.str (S [V.getD i 0]) t7) ∧ d = (dpD U V i j : Int) ∧ (r = if j = 0 then 2 * (i : Int) else (dpD U V (i + 1) j : Int)) ∧ ∀ k, k < j → mn ≤ (dpD U V (i + 1) (k + 1) : Int)) rfl (by assumption) (by omega) (by k_asm) (by k_asm) ?_ ?_ ?_
                · exact ⟨us, _, _, _, _, _, _, _, _, _, _, rfl, hI, e1, e2, e3, e4, rfl, rfl, rfl, rfl, by rw [dp_left]; omega, by rw [if_pos rfl]; omega, fun k hk => absurd hk (Nat.not_lt_zero _)⟩
                · rintro j t9 m₁ news₁ h₁ tk₁ own2 hj hoff2 ⟨us, r, d, mn, t1, t2, t3, t4, t5, t6, t7, rfl, hI, e1, e2, e3, e4, e5, e6, e7, e8, hd', hr', hmn⟩ F₁ N₁
                  have N₂ : News s.heap _ h₁ ((Drow, listOf (List.toArray us) crow) :: (own ++ own2)) := N₁
                  have hne : ∀ p ∈ own ++ own2, p.1 ≠ Drow := by
                    intro p hp
                    rcases List.mem_append.mp hp with h | h
                    · exact hoff p h _ (.head _)
                    · exact hoff2 p h _ (.head _)
                  have hml := mix_length U V i j
                  clear N₁
                  have key := stepX_eq (U := U) (V := V) (i := i) (j := j) (e := (mixRow U V i j).getD ((j : Int)).toNat 0) hr' hd' (mix_get' hj)
                  tb_rel
                  all_goals (rename Fr s.heap _ _ _ => FF; rename News s.heap _ _ _ => NN; rename IntsAre (List.set _ _ _) _ => hi')
                  · rename (_ < mn) => hlt
                    exact Halt.out <| InvEndN.intro FF NN ⟨_, _, _, _, _, _, _, _, _, _, _, rfl, hi_next hj key hi', e1, e2, e3, e4, rfl, rfl, rfl, e8, mix_get' hj, r_step key, mn_step hmn key hlt⟩ rfl mem_own.1 mem_own.2
                  · rename (¬ (_ < mn)) => hlt
                    exact Halt.out <| InvEndN.intro FF NN ⟨_, _, _, _, _, _, _, _, _, _, _, rfl, hi_next hj key hi', e1, e2, e3, e4, rfl, rfl, e7, e8, mix_get' hj, r_step key, mn_stay hmn key hlt⟩ rfl mem_own.1 mem_own.2
                · rintro m₁ news₁ h₁ tk₁ ⟨us, r, d, mn, t1, t2, t3, t4, t5, t6, t7, rfl, hI, e1, e2, e3, e4, e5, e6, e7, e8, hd', hr', hmn⟩ F₁ N₁
                  rw [mix_next] at hI
                  tb_rel
                  all_goals (rename Fr s.heap _ _ _ => FF)
                  · refine hret _ _ _ ⟨_, _, rfl, .early a2 b2 U V i hSt (ne_nil_of q3) (ne_nil_of q4) hUV hi fun k hk => ?_⟩ FF.keep
                    have := hmn k hk
                    omega
                  · rename News s.heap _ _ _ => NN
                    refine Halt.out ?_
                    refine InvEndN.intro FF NN ⟨_, _, _, _, _, _, rfl, hI, e1, e2, e3, e4, e5, fun _ => ?_⟩ rfl ?_ ?_
                    · rw [hr', if_neg (by omega)]
                    · intro p hp
                      rcases List.mem_cons.mp hp with h | h
                      · rw [h]; exact .head _
                      · exact absurd h (List.not_mem_nil)
                    · intro p hp
                      exact .tail _ hp
              · rintro m₁ news₁ h₁ tk₁ ⟨us, r, t1, t2, t3, t4, rfl, hI, e1, e2, e3, e4, e5, hr⟩ F₁ N₁
                tb_rel
                refine hret _ _ _ ⟨_, _, rfl, ?_⟩ (by assumption : Fr s.heap _ _ _).keep
                rw [hr hV0]
                exact .whole a2 b2 U V hSt (ne_nil_of q3) (ne_nil_of q4) hUV
        · refine hret _ _ _ ⟨_, _, rfl, ?_⟩ (by assumption : Fr s.heap _ _ _).keep
          rw [← ha2, ← hb2]
          exact .nil a2 b2 hSt (.inr (nil_of (by rw [hnb2]; assumption)))
        · refine hret _ _ _ ⟨_, _, rfl, ?_⟩ (by assumption : Fr s.heap _ _ _).keep
          rw [← ha2, ← hb2]
          exact .nil a2 b2 hSt (.inl (nil_of (by rw [hna2]; assumption)))
end Mine

-- part MapR
namespace Mine
open PySem PySem.W PySem.Calls PyProof.Rows PySem.Builtin PySem.Builtin.Str
set_option maxRecDepth 100000

theorem owner_map : Manifest.owners.lookup (String.ofList ['p', 'a', 'm'].reverse) = some Manifest.sig_map := by kernel_rfl
theorem slot_map_init : Slot "map" "__init__" "object.__init__" :=
  .of (owner := "object") (n := "__init__") (by rw [typeLookup_type, builtinLookup_eq_fast]; kernel_rfl) (by decide +kernel) (by decide +kernel) (by decide +kernel)
    (by first | exact .inl (by decide +kernel) | exact .inr (by decide +kernel)) (by rw [isSubtype_type]; kernel_rfl)
theorem slot_map_iter : Slot "map" "__iter__" "map.__iter__" :=
  .of (owner := "map") (n := "__iter__") (by rw [typeLookup_type, builtinLookup_eq_fast]; kernel_rfl) (by decide +kernel) (by decide +kernel) (by decide +kernel)
    (by first | exact .inl (by decide +kernel) | exact .inr (by decide +kernel)) (by rw [isSubtype_type]; kernel_rfl)
theorem args_map_iter (a : Value) : argsOk "map.__iter__" ⟨[a], []⟩ := by
  unfold argsOk; rw [signature?_of (id := "map.__iter__") (n := ['_', '_', 'r', 'e', 't', 'i', '_', '_']) (o := ['p', 'a', 'm']) (by kernel_rfl) owner_map]; kernel_rfl
theorem slot_map_next : Slot "map" "__next__" "map.__next__" :=
  .of (owner := "map") (n := "__next__") (by rw [typeLookup_type, builtinLookup_eq_fast]; kernel_rfl) (by decide +kernel) (by decide +kernel) (by decide +kernel)
    (by first | exact .inl (by decide +kernel) | exact .inr (by decide +kernel)) (by rw [isSubtype_type]; kernel_rfl)
theorem entry_map_next : entryFor table "map.__next__" = some Builtin.«map.__next__» := entryFor_of_tree (by kernel_rfl)
theorem args_map_next (a : Value) : argsOk "map.__next__" ⟨[a], []⟩ := by
  unfold argsOk; rw [signature?_of (id := "map.__next__") (n := ['_', '_', 't', 'x', 'e', 'n', '_', '_']) (o := ['p', 'a', 'm']) (by kernel_rfl) owner_map]; kernel_rfl
theorem entry_map_iter : entryFor table "map.__iter__" = some Builtin.«dict_keyiterator.__iter__» :=
  entryFor_alias (id' := "dict_keyiterator.__iter__") (by kernel_rfl) (by first | rfl | decide +kernel | (unfold String.splitOn; simp +decide [String.splitOnAux])) (by decide +kernel) (by kernel_rfl)
theorem mro_map : mroOf (.type "map") = pure [.type "map", .type "object"] := by rw [mroOf_type]; kernel_rfl
theorem lookup_map_new : typeLookup (.type "map") "__new__" = pure (some (.builtin "map.__new__")) := by rw [typeLookup_type, builtinLookup_eq_fast]; kernel_rfl
theorem called_map : TypeCalled "map" "map.__new__" "object.__init__" :=
  ⟨by decide +kernel, by decide +kernel, ⟨_, _, mro_map⟩, madeBy_type mro_map lookup_map_new (by decide +kernel), by decide +kernel, by rw [isSubtype_type]; kernel_rfl, slot_map_init⟩
theorem typeCall_map (a b : Value) : checkTypeCall "map" ⟨[a, b], []⟩ = pure () := by kernel_rfl
theorem newCall_map (a b : Value) : checkBuiltinCall "map.__new__" ⟨[.type "map", a, b], []⟩ = pure () := by kernel_rfl
theorem entry_map_new : entryFor table "map.__new__" = some Builtin.«map.__new__» := entryFor_of_tree (by kernel_rfl)
theorem sub_map : isSubtype (.type "map") (.type "map") = pure true := by rw [isSubtype_type]; kernel_rfl
theorem map_no_len : typeLookup (.type "map") "__len__" = pure none := by rw [typeLookup_type, builtinLookup_eq_fast]; kernel_rfl
theorem map_no_hint : typeLookup (.type "map") "__length_hint__" = pure none := by rw [typeLookup_type, builtinLookup_eq_fast]; kernel_rfl
theorem args_init3 (a b c : Value) : argsOk "object.__init__" ⟨[a, b, c], []⟩ := by
  unfold argsOk; rw [signature?_of (id := "object.__init__") (n := ['_', '_', 't', 'i', 'n', 'i', '_', '_']) (o := ['t', 'c', 'e', 'j', 'b', 'o']) (by kernel_rfl) F.owner_object]; kernel_rfl

abbrev IsMap (h : Heap) (M T : Addr) (f : Value) : Prop := h.get? M = some { cls := .type "map", dict := none, data := .fields #[.ref T, f], slots := #[] }

theorem meets_map_new (f : Value) (l : Addr) (items : Array Value) (n : Nat) (dct : Option Addr) (sl : Array (Option Value)) :
    Meets (Builtin.«map.__new__» ⟨[.type "map", f, .ref l], []⟩) (fun _ R s => s.heap.get? l = some { cls := .type "list", dict := dct, data := .seq items n, slots := sl } ∧
      R (.ok (.ret (.ref ((s.heap.push { cls := .type "list_iterator", data := .fields #[.ref l, .int 0 0] }).push { cls := .type "tuple", data := .seq #[.ref s.heap.objs.size] }).objs.size)))
        { s with heap := ((s.heap.push { cls := .type "list_iterator", data := .fields #[.ref l, .int 0 0] }).push { cls := .type "tuple", data := .seq #[.ref s.heap.objs.size] }).push { cls := .type "map", data := .fields #[.ref (s.heap.push { cls := .type "list_iterator", data := .fields #[.ref l, .int 0 0] }).objs.size, f] } }) :=
  .of_wp fun prog w A R s h => by
    obtain ⟨hp, g, d, tk, os⟩ := s; obtain ⟨hl, h⟩ := h
    have hsub := sub_map
    have hL : Heap.IsList (Shared.heap ⟨hp, g, d, tk, os⟩) l items := ⟨_, hl, rfl, n, rfl⟩
    wp_walk using AutoSeq1.wpAny_loadPart' hl, wpAny_pyIter_list hL
    exact ⟨_, rfl, h⟩

abbrev IsOne (h : Heap) (T : Addr) (a : Value) : Prop := h.get? T = some { cls := .type "tuple", data := .seq #[a] }
end Mine

-- part MapS
namespace Mine
open PySem PySem.W PySem.Calls PyProof.Rows PySem.Builtin PySem.Builtin.Str
set_option maxRecDepth 100000
section
variable {prog : Program} {w : World} {A : Around} {E : Value → Shared → Prop} {s : Shared}
theorem map_next_item {M T I l : Addr} {i : Nat} {items : Array Value} {x : Str} {t : Tok} {Q : Value → Shared → Prop}
    (hM : IsMap s.heap M T (.builtin "str.capitalize")) (hT : IsOne s.heap T (.ref I)) (hit : s.heap.IsListIter I l i) (hl : s.heap.IsList l items) (hx : items[i]? = some (.str x t)) (hz : x.length ≤ 5592405) (hMI : M ≠ I)
    (hQ : ∀ h' t' k, h'.IsListIter I l (i + 1) → Heap.SameBut I s.heap h' → Q (.str (Txt.capitalize x) t') { s with heap := h', toks := k }) :
    wpAny (model prog w) A (Builtin.«map.__next__» ⟨[.ref M], []⟩) (fun fin s' => ∃ v, fin = .done (.ret v) ∧ Q v s') E s := by
  obtain ⟨hp, g, d, tk, os⟩ := s
  show wpAny _ _ (field (.ref M) 0 >>= _) _ _ _
  refine wpAny_bind (wpAny_field hM rfl (x := .ref T) rfl ?_)
  show wpAny _ _ (seqItems? (.ref T) >>= _) _ _ _
  refine wpAny_bind (wpAny_seqItems hT rfl ?_)
  dsimp only
  refine wpAny_bind ?_
  rw [← Array.forIn_toList]
  simp only [List.forIn_cons, List.forIn_nil]
  refine wpAny_bind (wpAny_bind (wpAny_holding (wpAny_nextOf_list_item hit hl hx fun h₁ hit₁ hs₁ => wpAny_pure (wpAny_pure ?_))))
  replace hs₁ : Heap.SameBut I hp h₁ := hs₁
  have hM₁ : IsMap h₁ M T (.builtin "str.capitalize") := (hs₁.2 M hMI).trans hM
  refine wpAny_bind (wpAny_field (s := ⟨h₁, g, d, tk, os⟩) hM₁ rfl (x := .builtin "str.capitalize") rfl ?_)
  refine wpAny_bind (wpAny_holding ?_)
  show wpAny _ _ (call (.builtin "str.capitalize") [.str x t]) _ _ ⟨h₁, g, d, tk, os⟩
  refine SCL.capitalize hz fun t' k _ => ?_
  refine wpAny_bind (wpAny_letGo (wpAny_pure ⟨_, rfl, hQ h₁ t' k hit₁ hs₁⟩))
theorem map_next_end {M T I l : Addr} {i : Nat} {items : Array Value} {Q : Fin → Shared → Prop} (hh : A.handled = none)
    (hM : IsMap s.heap M T (.builtin "str.capitalize")) (hT : IsOne s.heap T (.ref I)) (hit : s.heap.IsListIter I l i) (hl : s.heap.IsList l items) (hx : items[i]? = none)
    (hE : ∀ h' e, Heap.ExtBut I s.heap h' → (∃ o, h'.get? e = some o ∧ o.cls = .type "StopIteration") → E (.ref e) { s with heap := h' }) :
    wpAny (model prog w) A (Builtin.«map.__next__» ⟨[.ref M], []⟩) Q E s := by
  obtain ⟨hp, g, d, tk, os⟩ := s
  show wpAny _ _ (field (.ref M) 0 >>= _) _ _ _
  refine wpAny_bind (wpAny_field hM rfl (x := .ref T) rfl ?_)
  show wpAny _ _ (seqItems? (.ref T) >>= _) _ _ _
  refine wpAny_bind (wpAny_seqItems hT rfl ?_)
  dsimp only
  refine wpAny_bind ?_
  rw [← Array.forIn_toList]
  simp only [List.forIn_cons, List.forIn_nil]
  exact wpAny_bind (wpAny_bind (wpAny_holding (wpAny_nextOf_list_end hh hit hl hx hE)))

/-- a map object over a list: what it hands out -/
theorem walks_map (hh : A.handled = none) (M T I l : Addr) (hMI : M ≠ I) (hTI : T ≠ I) (hlI : l ≠ I) (ts : List (Str × Tok)) (hz : ∀ p ∈ ts, p.1.length ≤ 5592405) :
    Walks prog w A M [M, T, I, l] [I] ts.length (fun i v => ∃ x t t', ts[i]? = some (x, t) ∧ v = .str (Txt.capitalize x) t')
      (fun i h => IsMap h M T (.builtin "str.capitalize") ∧ IsOne h T (.ref I) ∧ h.IsListIter I l i ∧ h.IsList l (strValues ts).toArray) where
  sub := fun b hb => by
    rw [List.mem_singleton.mp hb]; simp
  frame := fun i h h' hst hk => by
    obtain ⟨hM, hT, hit, hl⟩ := hst
    exact ⟨hk M (by simp) _ hM, hk T (by simp) _ hT, hit.at fun o x => hk I (by simp) o x, hl.at fun o x => hk l (by simp) o x⟩
  item := fun i s Q E hi hst hQ => by
    obtain ⟨hM, hT, hit, hl⟩ := hst
    have hx : (strValues ts).toArray[i]? = some (.str (ts[i]).1 (ts[i]).2) := by
      simp [strValues, hi]
    have hty : s.TypeIs (.ref M) "map" := ⟨_, hM, rfl⟩
    unfold pyNext
    refine wpAny_bind (wpAny_attempt (wpAny_callSpecial?_slot (name := Str.ofString "__next__") hty slot_map_next
      (wpAny_call_entry slot_map_next hty entry_map_next (map_next_item hM hT hit hl hx (hz _ (List.getElem_mem hi)) hMI fun h' t' k hit' hs' => wpAny_pure (hQ _ h' k ⟨(ts[i]).1, (ts[i]).2, t', List.getElem?_eq_getElem hi, rfl⟩ ⟨(hs'.2 M hMI).trans hM, (hs'.2 T hTI).trans hT, hit', hl.at fun o y => (hs'.2 l hlI).trans y⟩ fun b o hb y => (hs'.2 b fun e => hb (by simp [e])).trans y)) (args_map_next _))))
  done := fun s Q E hst hQ => by
    obtain ⟨hM, hT, hit, hl⟩ := hst
    have hty : s.TypeIs (.ref M) "map" := ⟨_, hM, rfl⟩
    unfold pyNext
    refine wpAny_bind (wpAny_attempt (wpAny_callSpecial?_slot (name := Str.ofString "__next__") hty slot_map_next
      (wpAny_call_entry slot_map_next hty entry_map_next (map_next_end (by first | exact hh | assumption) hM hT hit hl (by simp [strValues]) fun h' x he' hx' => ?_) (args_map_next _))))
    obtain ⟨o, ho, hc⟩ := hx'
    refine wpAny_bind (wpAny_isInstance (T := "StopIteration") (b := true) ⟨o, ho, hc⟩ isSubtype_stop ?_)
    exact wpAny_pure (hQ h' s.toks fun b o hb y => he' b o (fun e => hb (by simp [e])) y)
  self := fun i s Q E hst hQ => by
    obtain ⟨hM, _, _, _⟩ := hst
    have hty : s.TypeIs (.ref M) "map" := ⟨_, hM, rfl⟩
    refine wpAny_pyIter_slot hty slot_map_iter (wpAny_call_entry slot_map_iter hty entry_map_iter ?_ (args_map_iter _))
    show wpAny _ _ (ret (.ref M)) _ _ s
    exact wpAny_pure ⟨_, rfl, "map", _, hty, slot_map_next.lookup, hQ⟩

theorem call_map_cap {l : Addr} {items : Array Value} {Q : Value → Shared → Prop} (hL : s.heap.IsList l items)
    (h : ∀ h', IsMap h' (s.heap.objs.size + 2) (s.heap.objs.size + 1) (.builtin "str.capitalize") → IsOne h' (s.heap.objs.size + 1) (.ref s.heap.objs.size) → h'.get? s.heap.objs.size = some { cls := .type "list_iterator", data := .fields #[.ref l, .int 0 0] } →
      (∀ b o, s.heap.get? b = some o → h'.get? b = some o) → h'.objs.size = s.heap.objs.size + 3 → Q (.ref (s.heap.objs.size + 2)) { s with heap := h' }) :
    wpAny (model prog w) A (call (.type "map") [.builtin "str.capitalize", .ref l]) Q E s := by
  obtain ⟨⟨c, dct, dt, sl⟩, hl, hc, n, hd⟩ := hL
  replace hc : c = .type "list" := hc
  replace hd : dt = .seq items n := hd
  subst hc hd
  refine callType_new called_map (by decide) (typeCall_map _ _) (newCall_map _ _) (fun obj => args_init3 obj _ _) entry_map_new
    (meets_map_new (.builtin "str.capitalize") l items n dct sl) ⟨hl, ?_⟩
  have hz : (s.heap.push { cls := .type "list_iterator", data := .fields #[.ref l, .int 0 0] }).objs.size = s.heap.objs.size + 1 := Heap.size_push ..
  generalize hh1 : s.heap.push { cls := .type "list_iterator", data := .fields #[.ref l, .int 0 0] } = h1 at hz
  have hz2 : (h1.push { cls := .type "tuple", data := .seq #[.ref s.heap.objs.size] }).objs.size = s.heap.objs.size + 2 := by rw [Heap.size_push, hz]
  generalize hh2 : h1.push { cls := .type "tuple", data := .seq #[.ref s.heap.objs.size] } = h2 at hz2
  show _ ∧ _
  rw [hz2, hz]
  have k1 : ∀ b o, s.heap.get? b = some o → h1.get? b = some o := fun b o e => by rw [← hh1]; exact Heap.get?_push_of_some _ e
  have k2 : ∀ b o, h1.get? b = some o → h2.get? b = some o := fun b o e => by rw [← hh2]; exact Heap.get?_push_of_some _ e
  have i1 : h1.get? s.heap.objs.size = some { cls := .type "list_iterator", data := .fields #[.ref l, .int 0 0] } := by rw [← hh1]; exact Heap.get?_push_size _ rfl
  have t2 : IsOne h2 (s.heap.objs.size + 1) (.ref s.heap.objs.size) := by rw [← hh2, ← hz]; exact Heap.get?_push_size _ rfl
  have m3 : IsMap (h2.push { cls := .type "map", data := .fields #[.ref (s.heap.objs.size + 1), .builtin "str.capitalize"] }) (s.heap.objs.size + 2) (s.heap.objs.size + 1) (.builtin "str.capitalize") := by
    have := Heap.get?_push_size h2 (o := { cls := .type "map", data := .fields #[.ref (s.heap.objs.size + 1), .builtin "str.capitalize"] }) rfl
    rw [hz2] at this; exact this
  exact ⟨⟨_, m3, rfl⟩, h _ m3 (Heap.get?_push_of_some _ t2) (Heap.get?_push_of_some _ (k2 _ _ i1)) (fun b o e => Heap.get?_push_of_some _ (k2 _ _ (k1 _ _ e))) (by rw [Heap.size_push, hz2])⟩
end
section
variable {prog : Program} {w : World} {A : Around} {E : Value → Shared → Prop} {s : Shared} {I : Addr} {fp wr : List Addr} {G : Array GenState → Array GenState → Prop} {n : Nat} {P : Nat → Value → Prop} {St : Nat → Shared → Prop}
/-- a map object tells no length: the list makes room -/
theorem hint_map {Q : Bool → Shared → Prop} (hT : s.TypeIs (.ref I) "map") (h : Q true s) : wpAny (model prog w) A (Builtin.List.listLengthHint (.ref I)) Q E s := by
  unfold Builtin.List.listLengthHint
  refine wpAny_bind (wpAny_specialOf hT map_no_len ?_)
  show wpAny _ A (specialOf (Value.ref I) (Str.ofString "__length_hint__") >>= _) _ _ _
  exact wpAny_bind (wpAny_specialOf hT map_no_hint (wpAny_pure h))
abbrev anyList (acc : Array Value) (c : Nat) : Obj := { cls := .type "list", dict := none, data := .seq acc c, slots := #[] }
/-- making room leaves the new list empty and all else as it was -/
theorem touch_new {Q : Unit → Shared → Prop} {D : Addr} {c : Nat} (hD : s.heap.get? D = some (anyList #[] c))
    (h : ∀ h' c', h'.get? D = some (anyList #[] c') → (∀ b, b ≠ D → h'.get? b = s.heap.get? b) → Q () { s with heap := h' }) : wpAny (model prog w) A (Builtin.List.listTouch (.ref D)) Q E s := by
  have h1 := Heap.get?_update_self (Obj.mapSeq (·.push Value.none)) hD rfl
  have h2 := Heap.get?_update_self (Obj.mapSeq (·.pop)) h1 rfl
  show wpAny _ A (updateSeq D (·.push .none) >>= fun _ => updateSeq D (·.pop)) _ _ _
  exact wpAny_bind (wpAny_updateSeq hD rfl (wpAny_updateSeq h1 rfl (h _ _ h2 fun b hb => by rw [Heap.get?_update_other _ _ (Ne.symm hb), Heap.get?_update_other _ _ (Ne.symm hb)])))
/-- a new list extended by all that a map object hands out -/
theorem extend_map {Q : Fin → Shared → Prop} {D : Addr} {res : Value} {c : Nat} (W : WalksS prog w A I fp wr G n P St) (hT : ∀ i s, St i s → s.TypeIs (.ref I) "map") (hst : St 0 s) (hDI : D ≠ I) (hDf : D ∉ fp)
    (hD : s.heap.get? D = some (anyList #[] c)) (hQ : ∀ s' c', s'.heap.get? D = some (anyList #[] c') → St 0 s' → (∀ b, b ≠ D → s'.heap.get? b = s.heap.get? b) → s' = { s with heap := s'.heap } → Q (.again (.builtin "list.extend.loop" ⟨[.ref D, .ref I, res], []⟩)) s') :
    wpAny (model prog w) A (Builtin.List.listExtendWith (.ref D) (.ref I) res) Q E s := by
  have same : Builtin.List.listSameRef (.ref D) (.ref I) = false := by simp [Builtin.List.listSameRef, hDI]
  unfold Builtin.List.listExtendWith
  refine wpAny_bind (wpAny_typeOf (hT 0 s hst) ?_)
  rw [if_neg (by rw [same]; decide)]
  refine wpAny_bind (W.self 0 _ _ _ hst (wpAny_bind (wpAny_holding (hint_map (hT 0 s hst) ?_))))
  rw [if_pos (by rfl)]
  refine wpAny_bind (wpAny_rule (wpAny_bind (touch_new hD fun h' c' e ot => ?_)))
  have st' : St 0 { s with heap := h' } := W.frame 0 s h' s.toks hst (Nat.le_refl _) fun b hb o eo => (ot b fun q => hDf (q ▸ hb)).trans eo
  exact wpAny_pure (hQ { s with heap := h' } c' e st' ot rfl)
/-- the items of a map object as a list (the road of collect) -/
theorem collect_map {Q : List Value → Shared → Prop} (W : WalksS prog w A.in1 I fp wr G n P St) (hT : ∀ i s, St i s → s.TypeIs (.ref I) "map") (hst : St 0 s) (hfp : ∀ b ∈ fp, b < s.heap.objs.size) (hI : I ∈ fp)
    (hQ : ∀ s' acc, Moved wr G s s' → ItemsOf P acc n → Q acc.toList s') (hn : n ≤ sizeLine) : wpAny (model prog w) A (collect (.ref I)) Q E s := by
  have hDf : s.heap.objs.size ∉ fp := fun q => absurd (hfp _ q) (Nat.lt_irrefl _)
  unfold collect
  refine wpAny_bind (wpAny_runValue (codeAny_builtin F.entry_proto_collect ?_))
  rw [Around.under_plainId F.plain_proto_collect _]
  show wpAny _ A.in1 (newList [] >>= fun l => again (.builtin "list.__iadd__" ⟨[l, .ref I], []⟩)) _ _ s
  refine wpAny_bind (wpAny_newObj_type (wpAny_pure ⟨plainId_quiet F.plain_list_iadd _, codeAny_builtin F.entry_list_iadd ?_⟩))
  rw [Around.under_plainId F.plain_list_iadd _]
  have st1 := W.frame 0 s (s.heap.push (anyList #[] 0)) s.toks hst (Nat.le_refl _) fun b _ o e => Heap.get?_push_of_some _ e
  refine extend_map (D := s.heap.objs.size) (res := .ref s.heap.objs.size) (c := 0) W hT st1 (fun e => hDf (e ▸ hI)) hDf (Heap.get?_push_size _ rfl) fun s2 c2 e2 st2 ot es => ?_
  refine ⟨plainId_quiet F.plain_extend_loop _, codeAny_extend_loopS W hn _ hDf _ n 0 s2 #[] c2 rfl (Nat.zero_le _) st2 e2 (ItemsOf.nil P) fun s' acc c' hm e' hacc => ?_⟩
  refine wpAny_bind (wpAny_load e' (wpAny_pure (hQ s' acc ?_ hacc)))
  have g2 : s2.gens = s.gens := by rw [es]
  have d2 : s2.drawn = s.drawn := by rw [es]
  have o2 : s2.os = s.os := by rw [es]
  have t2 : s2.toks = s.toks := by rw [es]
  refine ⟨fun b o hb e => hm.heap b o (fun q => ?_) ((ot b ?_).trans (Heap.get?_push_of_some _ e)), by rw [← g2]; exact hm.gens, hm.drawn.trans d2, hm.os.trans o2, by rw [← t2]; exact hm.toks⟩
  · rcases List.mem_cons.mp q with q | q
    · rw [q] at e; exact absurd (Heap.lt_size e) (Nat.lt_irrefl _)
    · exact hb q
  · intro q
    rw [q] at e; exact absurd (Heap.lt_size e) (Nat.lt_irrefl _)

/-- str.join over a map object that hands out texts -/
theorem join_map {x : Str} {t : Tok} {Q : Value → Shared → Prop} (W : WalksS prog w A.in1.in1 I fp wr G n P St) (hT : ∀ i s, St i s → s.TypeIs (.ref I) "map") (hst : St 0 s) (hfp : ∀ b ∈ fp, b < s.heap.objs.size) (hI : I ∈ fp)
    (hstr : ∀ i v, P i v → ∃ y u, v = Value.str y u)
    (hq : ∀ s' (l : List (Str × Tok)), Moved wr G s s' → ItemsOf P (strValues l).toArray n → JoinOk x (l.map (·.1)) = true ∧ ∀ t' k, Q (.str (Txt.join x (l.map (·.1))) t') { s' with toks := k })
    (hsz : n ≤ sizeLine) :
    wpAny (model prog w) A (call (.builtin "str.join") [.str x t, .ref I]) Q E s := by
  refine wpAny_call (codeAny_call_builtin F.slot_str_join.plain F.entry_str_join (F.slot_str_join.check _ _ _ _ _ _ _ _ (typeIs_str _ _ _) (F.args_str_join_2 _ _) ?_))
  rw [join_tree_other]
  refine wpAny_bind (wpAny_typeOf (hT 0 s hst) ?_)
  rw [if_neg (by decide)]
  refine wpAny_bind (wpAny_tryCatch (W.of_in1.self 0 s _ _ hst (wpAny_bind (collect_map W hT hst hfp hI (fun s' acc hm hacc => ?_) hsz))))
  have texts : ∀ v ∈ acc.toList, ∃ y u, v = Value.str y u := by
    intro v hv
    obtain ⟨j, hj⟩ := List.getElem?_of_mem hv
    exact hstr j v (hacc.2 j v (by rw [← hj]; simp))
  obtain ⟨l, hl⟩ := exists_strValues acc.toList texts
  have el : (strValues l).toArray = acc := by rw [hl]
  obtain ⟨hok, hpost⟩ := hq s' l hm (by rw [el]; exact hacc)
  have hfit : tooLong ((l.map (·.1)).toArray.foldl (· + ·.length + x.length) 0) = false := by
    have := hok
    unfold JoinOk at this
    simpa using this
  rw [← hl]
  suffices g : Gives (joinTail x (strValues l)) (joinMade x l) from g prog w A (wants Q E) s' (post_join l ⟨joinFit_length hfit, hpost⟩)
  clear hpost hok el hl
  rcases l with _ | ⟨p, _ | ⟨q, r⟩⟩ <;> exact gives_joinTail x _ hfit
end
end Mine

-- part CwR
namespace Mine
open PySem PySem.W PySem.Calls PyProof.Rows PySem.Builtin PySem.Builtin.Str
set_option maxRecDepth 100000
abbrev txtObj (ts : List (Str × Tok)) : Obj := { cls := .type "list", data := .seq (strValues ts).toArray }
abbrev itObj (l : Addr) : Obj := { cls := .type "list_iterator", data := .fields #[.ref l, .int 0 0] }
abbrev oneObj (I : Addr) : Obj := { cls := .type "tuple", data := .seq #[.ref I] }
abbrev mapObj (T : Addr) : Obj := { cls := .type "map", dict := none, data := .fields #[.ref T, .builtin "str.capitalize"], slots := #[] }
section
variable {prog : Program} {w : World} {A : Around} {E : Value → Shared → Prop} {s : Shared} {K : Frag} {h₀ : Heap} {L l : Addr} {m : Str → Option Value} {news : List (Addr × Obj)} {Q : Value → Shared → Prop} {ts : List (Str × Tok)}

theorem r_capattr {expr : Bool} (F : Fr h₀ L s.heap m) (X₀ : K.In h₀)
    (e : findCls K (.type "str") (.type "type") "capitalize" = some (.val (.builtin "str.capitalize"))) (h : ∀ u, Q (.builtin "str.capitalize") { s with toks := u }) :
    wpAny (model prog w) A (getAttr (.type "str") "capitalize" expr) Q E s := by
  have X := X₀.keeps F.keep
  have hstub : opaqueClassAbove (.type "str") = pure none := by unfold opaqueClassAbove; dsimp only; rw [show Manifest.isStub "str" = false from by decide +kernel]; rfl
  have L0 : Looks (model prog w) s.heap (typeOf (.type "str")) (.type "type") := Looks.of_pure (kitMeta_of (by decide +kernel))
  have LO : Looks (model prog w) s.heap (opaqueClassAbove (.type "str")) none := Looks.of_pure hstub
  have hg : findIn K (.type "type") "__getattribute__" = some (some (.builtin "type.__getattribute__")) := type_tga
  refine cls_open X LO L0 hg (looks_hook X (r := none) (by rfl)) (by show subIn K _ _ = _; rfl) e ?_
  exact wpAny_pure (handed_on rfl (h _))

theorem r_split {tx mk : List Nat} {t u : Tok} (F : Fr h₀ L s.heap m) (N : News h₀ L s.heap news) (hz : tx.length ≤ 1000) (hm : 0 < mk.length)
    (h : ∀ D ts h' k, ts.map (·.1) = Txt.split (S tx) (S mk) → Fr h₀ L h' m → News h₀ L h' ((D, txtObj ts) :: news) → Q (.ref D) { s with heap := h', toks := k }) :
    wpAny (model prog w) A (call (.builtin "str.split") [.str (S tx) t, .str (S mk) u]) Q E s :=
  splitN1 F N (by rw [S_length, beq_eq_false_iff_ne]; exact Nat.ne_of_gt hm) (fun ts h' k e F' N' => h _ ts h' k e F' N') (by rw [S_length, sizeLine_eq]; omega)

theorem r_map (F : Fr h₀ L s.heap m) (N : News h₀ L s.heap ((l, txtObj ts) :: news))
    (h : ∀ I h', Fr h₀ L h' m → News h₀ L h' ((I + 2, mapObj (I + 1)) :: (I + 1, oneObj I) :: (I, itObj l) :: (l, txtObj ts) :: news) → l < I → Q (.ref (I + 2)) { s with heap := h' }) :
    wpAny (model prog w) A (call (.type "map") [.builtin "str.capitalize", .ref l]) Q E s := by
  have hl := (N _ (.head _)).1
  refine call_map_cap (items := (strValues ts).toArray) ⟨_, hl, rfl, _, rfl⟩ fun h' hM hT hI hk hsz => ?_
  refine h s.heap.objs.size h' (fr_keeps F hk) ?_ (Heap.lt_size hl)
  have fresh : ∀ b, s.heap.objs.size ≤ b → h₀.get? b = none := fun b hb => by
    cases q : h₀.get? b with
    | none => rfl
    | some o => exact absurd (Heap.lt_size (F.keep _ _ q)) (Nat.not_lt.mpr hb)
  have hLlt : L < s.heap.objs.size := F.ns.lt
  have ne : ∀ k, s.heap.objs.size + k ≠ L := fun k => Nat.ne_of_gt (Nat.lt_of_lt_of_le hLlt (Nat.le_add_right _ _))
  intro p hp
  rcases List.mem_cons.mp hp with rfl | hp
  · exact ⟨hM, ne 2, fresh _ (Nat.le_add_right _ _)⟩
  rcases List.mem_cons.mp hp with rfl | hp
  · exact ⟨hT, ne 1, fresh _ (Nat.le_add_right _ _)⟩
  rcases List.mem_cons.mp hp with rfl | hp
  · exact ⟨hI, ne 0, fresh _ (Nat.le_refl _)⟩
  · exact ⟨hk _ _ (N p hp).1, (N p hp).2⟩

theorem items_cap {ts l : List (Str × Tok)} (h : ItemsOf (fun i v => ∃ x t t', ts[i]? = some (x, t) ∧ v = Value.str (Txt.capitalize x) t') (strValues l).toArray ts.length) : l.map (·.1) = (ts.map (·.1)).map Txt.capitalize := by
  have hlen : l.length = ts.length := by have := h.1; simpa [strValues] using this
  apply List.ext_getElem
  · simp [hlen]
  · intro i h1 h2
    simp only [List.length_map] at h1 h2
    obtain ⟨x, t, t', e1, e2⟩ := h.2 i (.str (l[i]).1 (l[i]).2) (by simp [strValues, h1])
    have e3 : ts[i] = (x, t) := by rw [List.getElem?_eq_getElem h2] at e1; exact Option.some.inj e1
    simp only [List.getElem_map, e3]
    exact (Value.str.inj e2).1

theorem joinOk_small {mk : Str} {xs : List Str} {a b : Nat} (h1 : ∀ x ∈ xs, x.length ≤ a) (h2 : xs.length ≤ b) (hm : mk.length ≤ 2) (hab : b * (a + 2) ≤ 16777216) : JoinOk mk xs = true := by
  unfold JoinOk
  rw [StrLaws.joinTotal, Bool.not_eq_true']
  have hs : ∀ ys : List Str, (∀ x ∈ ys, x.length ≤ a) → (ys.map (·.length)).sum ≤ ys.length * a := by
    intro ys
    induction ys with
    | nil => intro _; simp
    | cons y r ih =>
      intro h
      have := ih fun x hx => h x (.tail _ hx)
      have h0 := h y (.head _)
      simp only [List.map_cons, List.sum_cons, List.length_cons, Nat.succ_mul]
      omega
  have h3 := hs xs h1
  have h4 : xs.length * a ≤ b * a := Nat.mul_le_mul_right _ h2
  have h5 : xs.length * mk.length ≤ b * 2 := Nat.mul_le_mul h2 hm
  have h6 : b * (a + 2) = b * a + b * 2 := Nat.mul_add _ _ _
  unfold tooLong
  rw [sizeLine_eq, decide_eq_false_iff_not]
  omega

theorem r_joinmap {mk : List Nat} {t : Tok} {I : Addr} (hh : A.handled = none) (F : Fr h₀ L s.heap m) (N : News h₀ L s.heap ((I + 2, mapObj (I + 1)) :: (I + 1, oneObj I) :: (I, itObj l) :: (l, txtObj ts) :: news)) (hl : l < I)
    (hz : ∀ p ∈ ts, p.1.length ≤ 1000) (hn : ts.length ≤ 1002) (hm : mk.length ≤ 2)
    (h : ∀ h' t' k, Fr h₀ L h' m → Q (.str (Txt.join (S mk) ((ts.map (·.1)).map Txt.capitalize)) t') { s with heap := h', toks := k }) :
    wpAny (model prog w) A (call (.builtin "str.join") [.str (S mk) t, .ref (I + 2)]) Q E s := by
  have nM := N _ (.head _)
  have nT := N _ (.tail _ (.head _))
  have nI := N _ (.tail _ (.tail _ (.head _)))
  have nl := N _ (.tail _ (.tail _ (.tail _ (.head _))))
  have d1 : I + 2 ≠ I := Nat.ne_of_gt (Nat.lt_add_of_pos_right (by decide))
  have d2 : I + 1 ≠ I := Nat.ne_of_gt (Nat.lt_add_of_pos_right (by decide))
  have d3 : l ≠ I := Nat.ne_of_lt hl
  have W := (walks_map (prog := prog) (w := w) (A := A.in1.in1) hh (I + 2) (I + 1) I l d1 d2 d3 ts (fun p hp => by have := hz p hp; omega)).toS
  refine join_map W ?_ ?_ ?_ (by simp) ?_ ?_ (by rw [sizeLine_eq]; omega)
  · rintro i s' ⟨hM, _⟩
    exact ⟨_, hM, rfl⟩
  · exact ⟨nM.1, nT.1, ⟨_, nI.1, rfl, rfl⟩, ⟨_, nl.1, rfl, _, rfl⟩⟩
  · intro b hb
    simp only [List.mem_cons, List.not_mem_nil, or_false] at hb
    rcases hb with rfl | rfl | rfl | rfl
    · exact Heap.lt_size nM.1
    · exact Heap.lt_size nT.1
    · exact Heap.lt_size nI.1
    · exact Heap.lt_size nl.1
  · rintro i v ⟨x, t, t', _, rfl⟩
    exact ⟨_, _, rfl⟩
  · intro s' lt hmv hit
    have e := items_cap hit
    have hlen : lt.length = ts.length := by have := congrArg List.length e; simpa using this
    refine ⟨?_, fun t' k => ?_⟩
    · rw [e]
      refine joinOk_small (a := 3000) (b := 1002) ?_ (by simpa using hn) (by rw [S_length]; exact hm) (by decide)
      intro x hx
      obtain ⟨y, hy, rfl⟩ := List.mem_map.mp hx
      obtain ⟨p, hp, rfl⟩ := List.mem_map.mp hy
      have h1 := len_capitalize p.1
      have h2 := hz p hp
      omega
    · rw [e]
      have hs : s' = { s with heap := s'.heap, toks := s'.toks } := by
        obtain ⟨h1, g1, d1, t1, o1⟩ := s'
        obtain ⟨h2, g2, d2, t2, o2⟩ := s
        have e1 : g1 = g2 := hmv.gens
        have e2 : d1 = d2 := hmv.drawn
        have e3 : o1 = o2 := hmv.os
        subst e1 e2 e3
        rfl
      have hF : Fr h₀ L s'.heap m := by
        obtain ⟨oL, es, ep, hL, r⟩ := F.ns
        refine ⟨⟨oL, es, ep, hmv.heap _ _ (fun q => nI.2.1 (List.mem_singleton.mp q).symm) hL, r⟩, fun b o e => hmv.heap b o (fun q => ?_) (F.keep b o e), F.above⟩
        have := nI.2.2
        rw [List.mem_singleton.mp q] at e
        rw [e] at this
        cases this
      have := h s'.heap t' k hF
      rw [hs]
      exact this
end
theorem split_short {tx mk : List Nat} {ts : List (Str × Tok)} (e : ts.map (·.1) = Txt.split (S tx) (S mk)) (h : tx.length ≤ 1000) : ∀ p ∈ ts, p.1.length ≤ 1000 := by
  intro p hp
  have h1 : p.1 ∈ Txt.split (S tx) (S mk) := by rw [← e]; exact List.mem_map.mpr ⟨p, hp, rfl⟩
  have h2 := part_short h1
  rw [S_length] at h2
  omega
theorem split_few {tx mk : List Nat} {ts : List (Str × Tok)} (e : ts.map (·.1) = Txt.split (S tx) (S mk)) (h : tx.length ≤ 1000) : ts.length ≤ 1002 := by
  have h1 := len_le_of_split e
  rw [S_length] at h1
  omega
end Mine

-- part Cw
namespace Mine
open PySem PySem.W PySem.Calls PyProof.Rows
set_option maxRecDepth 100000
local macro_rules | `(tactic| cell_enter) => `(tactic| (refine' enter_own ?k1 ?k2 ?k3 ?k5 ?kA ?kF ?kK ?k6 ?k7 ?k8 ?k9 ?kB ?_ ?c2 ?c3 ?c4 ?c5; (case kA => exact rfl); (case kF => exact rfl); (case kK => assumption); (case k1 => k_asm); (case k2 => k_asm); (case k3 => k_asm); (case k5 => k_asm); (case k6 => k_is); (case k7 => k_is); (case k8 => ktr_room); (case k9 => first | exact BindsTo.of_eq rfl | exact binds_K (by k_in) rfl (by k_is) rfl rfl rfl); (case c5 => decide); (case kB => exact locs rfl); (case c2 => exact rfl); (case c3 => exact rfl); (case c4 => exact rfl); k_whole; intro L' h' F' N' B' X' T'; (try dsimp only); (try k_fold)))
local macro_rules | `(tactic| tb_start) => `(tactic| ((try simp only [List.length_drop, List.length_take, List.length_append, List.length_cons, List.length_nil, List.length_map, List.length_range]); omega))
local macro_rules | `(tactic| walk_at "exec While") => `(tactic| (refine Halt.mk ?_))
local macro_rules | `(tactic| walk_at "eval ListComp") => `(tactic| (refine Halt.mk ?_))
local macro_rules | `(tactic| walk_at "exec Assign cons ListComp") => `(tactic| (refine Halt.mk ?_))
local macro_rules | `(tactic| walk_at "eval Name") => `(tactic| (k_here; (with_reducible show wpAny _ _ (eval (Expr.Name _ _) (envOf _ _ _ _ _)) _ _ _); k_dflt (refine' ld ?k1 ?k2 ?_; (case k1 => k_asm); (case k2 => assumption); k_whole)))
local macro_rules | `(tactic| walk_at "subscriptTail Name Slice str ref") => `(tactic| (k_here; (with_reducible show wpAny _ _ (subscriptTail _ (Expr.Slice none none none _) (Value.str (S _) _) _) _ _ _); refine r_nn (s := ⟨_, _, _, _, _⟩) (by k_asm) (by k_asm) (by tb_start) ?_; intro h' t' k' F' N'; (try k_sweep)))
local macro_rules | `(tactic| walk_at "subscriptTail Name Slice str ref") => `(tactic| (k_here; (with_reducible show wpAny _ _ (subscriptTail _ (Expr.Slice none (some _) none _) (Value.str (S _) _) _) _ _ _); first | (refine r_orSlice (s := ⟨_, _, _, _, _⟩) (by k_asm) (by k_asm) (by tb_start) (by tb_start) ?_; intro h' t' k' F' N'; (try k_sweep)) | (refine r_ns (s := ⟨_, _, _, _, _⟩) (by k_asm) (by k_asm) (by tb_start) (by tb_start) ?_; intro h' t' k' F' N'; (try k_sweep)) | (refine r_ns_neg (s := ⟨_, _, _, _, _⟩) (by k_asm) (by k_asm) (by tb_start) (by tb_start) ?_; intro h' t' k' F' N'; (try k_sweep)) | (refine r_nn (s := ⟨_, _, _, _, _⟩) (by k_asm) (by k_asm) (by tb_start) ?_; intro h' t' k' F' N'; (try k_sweep))))
local macro_rules | `(tactic| walk_at "subscriptTail Name Slice str ref") => `(tactic| (k_here; (with_reducible show wpAny _ _ (subscriptTail _ (Expr.Slice (some _) none none _) (Value.str (S _) _) _) _ _ _); refine r_sn (s := ⟨_, _, _, _, _⟩) (by k_asm) (by k_asm) (by tb_start) (by tb_start) ?_; intro h' t' k' F' N'; (try k_sweep)))
local macro_rules | `(tactic| walk_at "subscriptTail Name Slice str ref") => `(tactic| (k_here; (with_reducible show wpAny _ _ (subscriptTail _ (Expr.Slice (some _) (some _) none _) (Value.str (S _) _) _) _ _ _); refine r_ss (s := ⟨_, _, _, _, _⟩) (by k_asm) (by k_asm) (by tb_start) (by tb_start) (by tb_start) ?_; intro h' t' k' F' N'; (try k_sweep)))
local macro_rules | `(tactic| walk_at "subscriptTail Name Name str int") => `(tactic| (k_here; (with_reducible show wpAny _ _ (subscriptTail _ _ (Value.str (S _) _) (Value.int _ _)) _ _ _); first | (refine r_item (by tb_start) (by tb_start) (by tb_start) ?_; intro t' k') | (refine r_item_neg (by tb_start) (by tb_start) (by tb_start) ?_; intro t' k')))
local macro_rules | `(tactic| walk_at "subscriptTail Name BinOp str int") => `(tactic| (k_here; (with_reducible show wpAny _ _ (subscriptTail _ _ (Value.str (S _) _) (Value.int _ _)) _ _ _); first | (refine r_item (by tb_start) (by tb_start) (by tb_start) ?_; intro t' k') | (refine r_item_neg (by tb_start) (by tb_start) (by tb_start) ?_; intro t' k')))
local macro_rules | `(tactic| walk_at "call builtin:len") => `(tactic| (k_here; (with_reducible show wpAny _ _ (call (Value.builtin "len") [Value.str (S _) _]) _ _ _); refine r_len (by tb_start) ?_; intro t' k'))
local macro_rules | `(tactic| walk_at "truthy str") => `(tactic| (k_here; (with_reducible show wpAny _ _ (truthy (Value.str (S _) _)) _ _ _); refine r_truthy2 (by tb_start) ?_ ?_ <;> (intro hT' k'; (try simp only [List.length_drop, List.length_take] at hT'); (try (exfalso; omega)))))
local macro_rules | `(tactic| walk_at "binaryOp Add str str") => `(tactic| (k_here; (with_reducible show wpAny _ _ (binaryOp Operator.Add (Value.str (S _) _) (Value.str (S _) _)) _ _ _); refine r_add (by tb_start) ?_; intro t' k'))
local macro_rules | `(tactic| walk_at "inplaceOp Add str str") => `(tactic| (k_here; (with_reducible show wpAny _ _ (inplaceOp Operator.Add (Value.str (S _) _) (Value.str (S _) _)) _ _ _); refine r_iadd (by tb_start) ?_; intro t' k'))
local macro_rules | `(tactic| walk_at "loadName") => `(tactic| (k_here; k_dflt (refine' ldn ?k1 ?k2 ?_; (case k1 => k_asm); (case k2 => first | exact rfl | assumption); k_whole)))
local macro_rules | `(tactic| walk_at "call builtin:str.upper") => `(tactic| (k_here; (with_reducible show wpAny _ _ (call (Value.builtin "str.upper") [Value.str (S [_]) _]) _ _ _); refine r_upper (getD_lt (by assumption)) ?_; intro t' k'))
local macro_rules | `(tactic| walk_at "call builtin:str.lower") => `(tactic| (k_here; (with_reducible show wpAny _ _ (call (Value.builtin "str.lower") [Value.str (S [_]) _]) _ _ _); refine r_lower (getD_lt (by assumption)) ?_; intro t' k'))
local macro_rules | `(tactic| walk_at "eval BoolOp") => `(tactic| (k_here; (with_reducible show wpAny _ _ (eval (Expr.BoolOp BoolOp.Or [Expr.Name _ _, Expr.Constant Const.none _ _] _) _) _ _ _); k_dflt (refine' r_orNone ?k1 ?k2 ?_; (case k1 => k_asm); (case k2 => first | exact rfl | assumption); k_whole)))
local macro_rules | `(tactic| walk_at "exec If") => `(tactic| (k_here; (with_reducible show wpAny _ _ (exec (Stmt.If _ [Stmt.Assign [Expr.Tuple _ _ _] _ _] [] _) _) _ _ _); refine Halt.mk ?_))
local macro_rules | `(tactic| walk_at "pyIter ref") => `(tactic| (k_here; refine Halt.mk ?_))
local macro_rules | `(tactic| walk_at "call ref") => `(tactic| (k_here; (with_reducible show wpAny _ _ (call (Value.ref 29) [Value.str (S [_]) _, Value.str (S [_]) _]) _ _ _); k_dflt (refine' use_clm (sub_claim _ _ _ _) ?k1 ?k2 ?k3 ?k5 ?k6 ?kK ?kd ?ku ?_; (case k1 => k_asm); (case k2 => k_asm); (case k3 => k_asm); (case k5 => k_asm); (case k6 => k_asm); (case kK => first | exact rfl | assumption); (case kd => ktr_room); (case ku => ktr_units); k_whole); (intro v' h' tk' hp' F' N'); (obtain ⟨t', hv'⟩ := hp'); subst hv'; (try dsimp only); (try k_sweep)))
local macro_rules | `(tactic| walk_at "setItem ref int") => `(tactic| (k_here; (with_reducible show wpAny _ _ (setItem (Value.ref _) (Value.int _ _) (Value.int _ _)) _ _ _); k_dflt (refine' ksa_set ?k1 ?k2 ?k3 ?k4 ?k5 ?k6 ?k7 ?_; (case k1 => k_asm); (case k2 => k_asm); (case k3 => exact Upd.head (by assumption)); (case k4 => with_reducible assumption); (case k5 => tb_start); (case k6 => tb_start); (case k7 => tb_start); k_whole); intro h' F' N' hi' hl' hs'; (try k_sweep)))
local macro_rules | `(tactic| walk_at "subscriptTail Name Name ref int") => `(tactic| (k_here; (with_reducible show wpAny _ _ (subscriptTail _ _ (Value.ref _) (Value.int _ _)) _ _ _); k_dflt (refine' ksa_sub ?k1 ?k2 ?k3 ?k4 ?k5 ?k6 ?_ ?k7; (case k1 => k_asm); (case k2 => k_mem); (case k3 => with_reducible assumption); (case k4 => tb_start); (case k5 => tb_start); (case k6 => tb_start); (case k7 => with_unfolding_all rfl); k_whole); intro t'))
local macro_rules | `(tactic| tb_rel) => `(tactic| repeat' (first | (k_unfold; (try dsimp only)) | walk1 | (dsimp only; walk1) | fail "no step"))
local macro_rules | `(tactic| walk_at "InvEndN") => `(tactic| (refine Halt.mk ?_))
local macro_rules | `(tactic| walk_at "getAttr") => `(tactic| (k_here; (with_reducible show wpAny _ _ (getAttr (Value.type "str") (PySem.Str.ofString "capitalize") _) _ _ _); k_dflt (refine' r_capattr ?F ?X ?e ?_; (case F => k_asm); (case X => k_asm); (case e => k_is); k_whole); intro u'))
local macro_rules | `(tactic| walk_at "call builtin:str.split") => `(tactic| (k_here; (with_reducible show wpAny _ _ (call (Value.builtin "str.split") [Value.str (S _) _, Value.str (S _) _]) _ _ _); k_dflt (refine' r_split ?F ?N ?z ?m ?_; (case F => k_asm); (case N => k_asm); (case z => tb_start); (case m => tb_start); k_whole); intro D' ts' h' k' e' F' N'; (try k_sweep)))
local macro_rules | `(tactic| walk_at "call type:map") => `(tactic| (k_here; k_dflt (refine' r_map ?F ?N ?_; (case F => k_asm); (case N => k_asm); k_whole); intro I' h' F' N' l'; (try k_sweep)))
local macro_rules | `(tactic| walk_at "call builtin:str.join") => `(tactic| (k_here; k_dflt (refine' r_joinmap ?hh ?F ?N ?l ?z ?n ?m ?_; (case hh => exact rfl); (case F => k_asm); (case N => k_asm); (case l => assumption); (case z => exact split_short (by assumption) (by tb_start)); (case n => exact split_few (by assumption) (by tb_start)); (case m => tb_start); k_whole); intro h' t' k' F'; (try k_sweep)))
set_option maxHeartbeats 8000000 in
theorem cw_claim {w : World} {mean : ExcName → Option Value} {mg mb : Str → Option Value} (tx mk : List Nat) (tt tm : Tok) (hl : tx.length ≤ 100) (hm : mk.length ≤ 2) (hm0 : 0 < mk.length) :
    Clm PySem.Challenge.rw_ny0069_01.prog w (hd.heap_39 w.params) hd.view_39 loose39 mean mg mb 22 [.str (S tx) tt, .str (S mk) tm] (fun v => ∃ t, v = .str (Txt.join (S mk) ((Txt.split (S tx) (S mk)).map Txt.capitalize)) t) 10 := by
  w_top off
  k_with_none
  k_fill
  intro dp un gd cn cs a ccd cl outer A₀ base h₀ L m s Q E B F X T hk hd hu hret
  refine wpAny_call ?_
  k_dflt cell_enter
  tb_rel
  rename (List.map _ _ = Txt.split _ _) => e
  exact hret _ _ _ ⟨_, by rw [e]⟩ (by assumption : Fr s.heap _ _ _).keep
end Mine

-- part PlainD
namespace Mine
open PySem PySem.W PySem.Calls PyProof.Rows PySem.Spec
set_option maxRecDepth 100000
/-- the signs that the law draws from -/
def signs : List Nat := [97, 65, 98, 66, 45, 95]
theorem lit_signs : Str.ofString "aAbB-_" = S signs := by decide +kernel
theorem lit_bA : Str.ofString "bA" = S [98, 65] := by decide +kernel
theorem lit_Ab : Str.ofString "Ab" = S [65, 98] := by decide +kernel
theorem lit_m1 : Str.ofString "-" = S [45] := by decide +kernel
theorem lit_m2 : Str.ofString "_-" = S [95, 45] := by decide +kernel
theorem lit_m3 : Str.ofString "--" = S [45, 45] := by decide +kernel
def MarkOk (mk : List Nat) : Prop := mk = [45] ∨ mk = [95, 45] ∨ mk = [45, 45]
theorem pick_mark {v : Str} (h : v = Str.ofString "-" ∨ v = Str.ofString "_-" ∨ v = Str.ofString "--") : ∃ mk, v = S mk ∧ MarkOk mk := by
  rcases h with rfl | rfl | rfl
  · exact ⟨_, lit_m1, .inl rfl⟩
  · exact ⟨_, lit_m2, .inr (.inl rfl)⟩
  · exact ⟨_, lit_m3, .inr (.inr rfl)⟩
def sg (k : Int) : Nat := signs.getD (Int.fmod k 6).toNat 0
def sg2 (k : Int) : Nat := signs.getD (Int.fmod (Int.fdiv k 6) 6).toNat 0
def whole (ns : List Int) : List Nat := [98, 65] ++ ns.map sg
def other (ns : List Int) : List Nat := [65, 98] ++ (ns.take 6).map sg2
theorem item_sg (k : Int) : Txt.item (Str.ofString "aAbB-_") (Int.fmod k 6) = S [sg k] := by
  rw [lit_signs]
  exact item_eq (fmod_lo _ (by decide)) (by show Int.fmod k 6 < ((signs.length : Nat) : Int); exact fmod_hi _ (by decide))
theorem item_sg2 (k : Int) : Txt.item (Str.ofString "aAbB-_") (Int.fmod (Int.fdiv k 6) 6) = S [sg2 k] := item_sg (Int.fdiv k 6)
def Al (l : List Nat) : Prop := ∀ c ∈ l, c ∈ signs
theorem Al.lt {l : List Nat} (h : Al l) : ∀ c ∈ l, c < 128 := fun c hc => (by decide : ∀ c ∈ signs, c < 128) c (h c hc)
theorem al_sg (k : Int) : sg k ∈ signs := by
  have h0 := fmod_lo k (n := 6) (by decide)
  have h1 := fmod_hi k (n := 6) (by decide)
  unfold sg
  generalize Int.fmod k 6 = i at h0 h1
  have : i = 0 ∨ i = 1 ∨ i = 2 ∨ i = 3 ∨ i = 4 ∨ i = 5 := by omega
  rcases this with rfl | rfl | rfl | rfl | rfl | rfl <;> decide
theorem al_whole (ns : List Int) : Al (whole ns) := by
  intro c hc
  rcases List.mem_append.mp hc with h | h
  · exact (by decide : ∀ c ∈ [98, 65], c ∈ signs) c h
  · obtain ⟨k, _, rfl⟩ := List.mem_map.mp h
    exact al_sg k
theorem al_other (ns : List Int) : Al (other ns) := by
  intro c hc
  rcases List.mem_append.mp hc with h | h
  · exact (by decide : ∀ c ∈ [65, 98], c ∈ signs) c h
  · obtain ⟨k, _, rfl⟩ := List.mem_map.mp h
    exact al_sg (Int.fdiv k 6)
theorem al_take {l : List Nat} (h : Al l) (n : Nat) : Al (l.take n) := fun c hc => h c (List.mem_of_mem_take hc)
theorem al_drop {l : List Nat} (h : Al l) (n : Nat) : Al (l.drop n) := fun c hc => h c (List.mem_of_mem_drop hc)
theorem al_app {a b : List Nat} (h : Al a) (h' : Al b) : Al (a ++ b) := fun c hc => (List.mem_append.mp hc).elim (h c) (h' c)
theorem MarkOk.al {mk : List Nat} (h : MarkOk mk) : Al mk := by rcases h with rfl | rfl | rfl <;> (intro c hc; revert c hc; decide)
theorem MarkOk.len {mk : List Nat} (h : MarkOk mk) : 0 < mk.length ∧ mk.length ≤ 2 := by rcases h with rfl | rfl | rfl <;> decide
/-- the places at which the two part, as the law's comprehension makes them -/
def dueG (t c : List Nat) (l : List Int) (k : Int) : List Int := if t.getD k.toNat 0 = c.getD k.toNat 0 then l else l ++ [k]
theorem due_add {t c : List Nat} {l : List Int} {k : Int} (h : (S [t.getD k.toNat 0] != S [c.getD k.toNat 0]) = true) : dueG t c l k = l ++ [k] := by
  unfold dueG
  rw [if_neg]
  intro e
  rw [e] at h
  simp at h
theorem due_same {t c : List Nat} {l : List Int} {k : Int} (h : (S [t.getD k.toNat 0] != S [c.getD k.toNat 0]) = false) : dueG t c l k = l := by
  unfold dueG
  rw [if_pos]
  have h' : S [t.getD k.toNat 0] = S [c.getD k.toNat 0] := by simpa using h
  simpa using S_inj.mp h'
def dueL (t c : List Nat) : List Int := (rangeKs 0 t.length).foldl (dueG t c) []
def due (t c : List Nat) : Int := ((dueL t c).length : Int)
def spreadAt (t mk : List Nat) (k : Nat) : List Nat := t.take k ++ mk ++ t.drop k
end Mine

-- part PlainA
namespace Mine
open PySem PySem.W PySem.Calls PyProof.Rows PySem.Spec
/-- an alignment of two texts and its cost -/
inductive Ali : List Nat → List Nat → Nat → Prop
  | nil : Ali [] [] 0
  | del (x : Nat) {a b : List Nat} {n : Nat} : Ali a b n → Ali (x :: a) b (n + 2)
  | ins (y : Nat) {a b : List Nat} {n : Nat} : Ali a b n → Ali a (y :: b) (n + 2)
  | sub (x y : Nat) {a b : List Nat} {n : Nat} : Ali a b n → Ali (x :: a) (y :: b) (n + cost x y)
theorem cost_self (x : Nat) : cost x x = 0 := by unfold cost; rw [if_pos rfl]
theorem cost_comm (x y : Nat) : cost x y = cost y x := by
  unfold cost
  by_cases h : x = y
  · subst h; rfl
  · rw [if_neg h, if_neg (c := y = x) (fun e => h e.symm)]
    by_cases h2 : Txt.lower (S [x]) = Txt.lower (S [y])
    · rw [if_pos h2, if_pos h2.symm]
    · rw [if_neg h2, if_neg (c := Txt.lower (S [y]) = Txt.lower (S [x])) (fun e => h2 e.symm)]
theorem Ali.refl : ∀ a, Ali a a 0
  | [] => .nil
  | x :: a => by have := Ali.sub x x (Ali.refl a); rwa [cost_self] at this
theorem Ali.symm {a b : List Nat} {n : Nat} (h : Ali a b n) : Ali b a n := by
  induction h with
  | nil => exact .nil
  | del x _ ih => exact .ins x ih
  | ins y _ ih => exact .del y ih
  | sub x y _ ih => rw [cost_comm x y]; exact .sub y x ih
theorem Ali.app {a b a' b' : List Nat} {n n' : Nat} (h : Ali a b n) (h' : Ali a' b' n') : Ali (a ++ a') (b ++ b') (n + n') := by
  induction h with
  | nil => simpa using h'
  | @del x a b n _ ih => have := Ali.del x ih; rw [show n + 2 + n' = n + n' + 2 by omega]; exact this
  | @ins y a b n _ ih => have := Ali.ins y ih; rw [show n + 2 + n' = n + n' + 2 by omega]; exact this
  | @sub x y a b n _ ih => have := Ali.sub x y ih; rw [show n + cost x y + n' = n + n' + cost x y by omega]; exact this
theorem Ali.rev {a b : List Nat} {n : Nat} (h : Ali a b n) : Ali a.reverse b.reverse n := by
  induction h with
  | nil => exact .nil
  | @del x a b n _ ih =>
    rw [List.reverse_cons]
    have := ih.app (Ali.del x .nil)
    simpa using this
  | @ins y a b n _ ih =>
    rw [List.reverse_cons]
    have := ih.app (Ali.ins y .nil)
    simpa using this
  | @sub x y a b n _ ih =>
    rw [List.reverse_cons, List.reverse_cons]
    have := ih.app (Ali.sub x y .nil)
    simpa using this
theorem Ali.len {a b : List Nat} {n : Nat} (h : Ali a b n) : 2 * a.length ≤ n + 2 * b.length ∧ 2 * b.length ≤ n + 2 * a.length := by
  induction h with
  | nil => exact ⟨by simp, by simp⟩
  | del x _ ih => obtain ⟨h1, h2⟩ := ih; simp only [List.length_cons]; omega
  | ins y _ ih => obtain ⟨h1, h2⟩ := ih; simp only [List.length_cons]; omega
  | sub x y _ ih => obtain ⟨h1, h2⟩ := ih; simp only [List.length_cons]; omega
theorem ali_nil_l : ∀ b, Ali [] b (2 * b.length)
  | [] => .nil
  | y :: b => by have := Ali.ins y (ali_nil_l b); rw [List.length_cons, Nat.mul_add]; exact this
theorem ali_nil_r (a : List Nat) : Ali a [] (2 * a.length) := (ali_nil_l a).symm

/-- one sign of the second text left out -/
theorem drop_r {a c : List Nat} {n : Nat} (h : Ali a c n) : ∀ {y : Nat} {b : List Nat}, c = y :: b → ∃ k, k ≤ n + 2 ∧ Ali a b k := by
  induction h with
  | nil => intro y b e; cases e
  | del x _ ih =>
    intro y b e
    obtain ⟨k, hk, hA⟩ := ih e
    exact ⟨k + 2, by omega, .del x hA⟩
  | @ins z a c n h _ =>
    intro y b e
    cases e
    exact ⟨n, by omega, h⟩
  | @sub x z a c n h _ =>
    intro y b e
    cases e
    exact ⟨n + 2, by omega, .del x h⟩
theorem cons_down {a b : List Nat} {x n : Nat} (h : Ali (x :: a) (x :: b) n) : ∃ k, k ≤ n ∧ Ali a b k := by
  cases h with
  | del _ h' =>
    obtain ⟨k, hk, hA⟩ := drop_r h' rfl
    exact ⟨k, by omega, hA⟩
  | ins _ h' =>
    obtain ⟨k, hk, hA⟩ := drop_r h'.symm rfl
    exact ⟨k, by omega, hA.symm⟩
  | sub _ _ h' => exact ⟨_, by omega, h'⟩
theorem pre_down : ∀ (p : List Nat) {a b : List Nat} {n : Nat}, Ali (p ++ a) (p ++ b) n → ∃ k, k ≤ n ∧ Ali a b k
  | [], _, _, n, h => ⟨n, Nat.le_refl _, h⟩
  | x :: p, a, b, n, h => by
    obtain ⟨k, hk, h'⟩ := cons_down (a := p ++ a) (b := p ++ b) h
    obtain ⟨k', hk', h''⟩ := pre_down p h'
    exact ⟨k', by omega, h''⟩
theorem suf_down {p a b : List Nat} {n : Nat} (h : Ali (a ++ p) (b ++ p) n) : ∃ k, k ≤ n ∧ Ali a b k := by
  have h' := h.rev
  rw [List.reverse_append, List.reverse_append] at h'
  obtain ⟨k, hk, h''⟩ := pre_down _ h'
  have := h''.rev
  rw [List.reverse_reverse, List.reverse_reverse] at this
  exact ⟨k, hk, this⟩

/-- n is the least cost -/
def Least (a b : List Nat) (n : Nat) : Prop := Ali a b n ∧ ∀ k, Ali a b k → n ≤ k
theorem Least.symm {a b : List Nat} {n : Nat} (h : Least a b n) : Least b a n := ⟨h.1.symm, fun k hk => h.2 k hk.symm⟩
theorem Least.strip {p q a b : List Nat} {n : Nat} (h : Least a b n) : Least (p ++ a ++ q) (p ++ b ++ q) n := by
  refine ⟨?_, fun k hk => ?_⟩
  · have := ((Ali.refl p).app h.1).app (Ali.refl q)
    simpa using this
  · obtain ⟨k1, h1, hA⟩ := suf_down hk
    obtain ⟨k2, h2, hB⟩ := pre_down p hA
    have := h.2 _ hB
    omega
theorem least_nil_l (b : List Nat) : Least [] b (2 * b.length) := ⟨ali_nil_l b, fun k hk => by have := hk.len.2; simpa using this⟩
theorem least_nil_r (a : List Nat) : Least a [] (2 * a.length) := (least_nil_l a).symm

theorem rev_take (l : List Nat) (i : Nat) (h : i < l.length) : (l.take (i + 1)).reverse = l.getD i 0 :: (l.take i).reverse := by
  rw [take_succ_getD l i h, List.reverse_append]
  rfl
theorem least_step {a b : List Nat} {v u D1 D2 D3 : Nat} (h1 : Least (v :: a) b D1) (h2 : Least a (u :: b) D2) (h3 : Least a b D3) : Least (v :: a) (u :: b) (min (min D1 D2 + 2) (D3 + cost v u)) := by
  refine ⟨?_, fun k hk => ?_⟩
  · by_cases e1 : D3 + cost v u ≤ min D1 D2 + 2
    · rw [Nat.min_eq_right e1]
      exact .sub v u h3.1
    · rw [Nat.min_eq_left (by omega)]
      by_cases e2 : D1 ≤ D2
      · rw [Nat.min_eq_left e2]
        exact .ins u h1.1
      · rw [Nat.min_eq_right (by omega)]
        exact .del v h2.1
  · cases hk with
    | del _ h' => have := h2.2 _ h'; omega
    | ins _ h' => have := h1.2 _ h'; omega
    | sub _ _ h' => have := h3.2 _ h'; omega
theorem dp_least (U V : List Nat) : ∀ i, i ≤ V.length → ∀ j, j ≤ U.length → Least (V.take i).reverse (U.take j).reverse (dpD U V i j) := by
  intro i
  induction i with
  | zero =>
    intro _ j hj
    rw [List.take_zero, List.reverse_nil, dp_zero]
    have := least_nil_l (U.take j).reverse
    rw [List.length_reverse, List.length_take, Nat.min_eq_left hj] at this
    exact this
  | succ i ih =>
    intro hi j
    induction j with
    | zero =>
      intro _
      rw [List.take_zero, List.reverse_nil, dp_left]
      have := least_nil_r (V.take (i + 1)).reverse
      rw [List.length_reverse, List.length_take, Nat.min_eq_left hi] at this
      exact this
    | succ j ihj =>
      intro hj
      have h1 := ihj (by omega)
      have h2 := ih (by omega) (j + 1) hj
      have h3 := ih (by omega) j (by omega)
      rw [rev_take V i (by omega)] at h1 ⊢
      rw [rev_take U j (by omega)] at h2 ⊢
      rw [dp_succ]
      exact least_step h1 h2 h3
theorem dp_whole (U V : List Nat) : Least V U (dpD U V V.length U.length) := by
  have h := dp_least U V V.length (Nat.le_refl _) U.length (Nat.le_refl _)
  rw [List.take_length, List.take_length] at h
  refine ⟨?_, fun k hk => h.2 k hk.rev⟩
  have := h.1.rev
  rwa [List.reverse_reverse, List.reverse_reverse] at this

theorem row_next {U V : List Nat} {i : Nat} {c : Int} (h : ∀ j, j ≤ U.length → c < (dpD U V i j : Int)) : ∀ j, j ≤ U.length → c < (dpD U V (i + 1) j : Int) := by
  intro j
  induction j with
  | zero =>
    intro _
    have := h 0 (Nat.zero_le _)
    rw [dp_left] at this ⊢
    omega
  | succ j ih =>
    intro hj
    have h1 := ih (by omega)
    have h2 := h (j + 1) hj
    have h3 := h j (by omega)
    rw [dp_succ]
    omega
theorem rows_on {U V : List Nat} {i : Nat} {c : Int} (h : ∀ j, j ≤ U.length → c < (dpD U V i j : Int)) : ∀ d j, j ≤ U.length → c < (dpD U V (i + d) j : Int)
  | 0, j, hj => h j hj
  | d + 1, j, hj => row_next (rows_on h d) j hj
theorem early_out {U V : List Nat} {i : Nat} {c : Int} (hU : 0 < U.length) (hi : i < V.length) (h : ∀ k, k < U.length → c < (dpD U V (i + 1) (k + 1) : Int)) : c < (dpD U V V.length U.length : Int) := by
  have h0 : ∀ j, j ≤ U.length → c < (dpD U V (i + 1) j : Int) := by
    intro j hj
    cases j with
    | zero =>
      have h1 := h 0 hU
      rw [dp_left]
      rw [dp_succ, dp_left, dp_left] at h1
      have := cost_le (V.getD i 0) (U.getD 0 0)
      omega
    | succ j => exact h j (by omega)
  have := rows_on h0 (V.length - (i + 1)) U.length (Nat.le_refl _)
  rwa [show i + 1 + (V.length - (i + 1)) = V.length by omega] at this

theorem strip_app {a b a2 b2 : List Nat} (h : Strip a b a2 b2) : ∃ p q, a = p ++ a2 ++ q ∧ b = p ++ b2 ++ q := by
  obtain ⟨p, q, a1, b1, hP, ha1, hb1, hS, ha2, hb2⟩ := h
  obtain ⟨⟨_, _, _, hp⟩, _⟩ := hP
  obtain ⟨⟨_, _, _, hs⟩, _⟩ := hS
  refine ⟨a.take p.toNat, a1.drop (a1.length - (-q).toNat), ?_, ?_⟩
  · rw [ha2, List.append_assoc, List.take_append_drop, ha1, List.take_append_drop]
  · rw [hb2, hs, List.append_assoc, List.take_append_drop, hb1, hp, List.take_append_drop]

/-- what the distance function hands back, by alignments -/
theorem lev_spec {a b : List Nat} {c r : Int} (h : LevOut a b c r) : (∃ n : Nat, r = (n : Int) ∧ Least a b n) ∨ (r = c + 1 ∧ ((∀ n, Ali a b n → c < (n : Int)) ∨ 40 < a.length ∨ 40 < b.length)) := by
  cases h with
  | same e => subst e; exact .inl ⟨0, rfl, Ali.refl a, fun _ _ => Nat.zero_le _⟩
  | nil a2 b2 hS hn =>
    obtain ⟨p, q, rfl, rfl⟩ := strip_app hS
    refine .inl ⟨2 * (a2.length + b2.length), by omega, ?_⟩
    rcases hn with rfl | rfl
    · have := (least_nil_l b2).strip (p := p) (q := q)
      simpa using this
    · have := (least_nil_r a2).strip (p := p) (q := q)
      simpa using this
  | long a2 b2 hS _ _ hl =>
    obtain ⟨p, q, rfl, rfl⟩ := strip_app hS
    refine .inr ⟨rfl, .inr ?_⟩
    simp only [List.length_append]
    omega
  | far a2 b2 U V hS _ _ hUV hle hc =>
    obtain ⟨p, q, rfl, rfl⟩ := strip_app hS
    refine .inr ⟨rfl, .inl fun n hn => ?_⟩
    have h1 := hn.len
    simp only [List.length_append] at h1
    rcases hUV with ⟨rfl, rfl⟩ | ⟨rfl, rfl⟩ <;> omega
  | early a2 b2 U V i hS h1 h2 hUV hi hc =>
    obtain ⟨p, q, rfl, rfl⟩ := strip_app hS
    refine .inr ⟨rfl, .inl fun n hn => ?_⟩
    have hU : 0 < U.length := by
      rcases hUV with ⟨rfl, rfl⟩ | ⟨rfl, rfl⟩ <;> exact List.length_pos_iff.mpr (by assumption)
    have h3 := early_out hU hi hc
    have hw := dp_whole U V
    have hst : Least (p ++ a2 ++ q) (p ++ b2 ++ q) (dpD U V V.length U.length) := by
      rcases hUV with ⟨rfl, rfl⟩ | ⟨rfl, rfl⟩
      · exact hw.symm.strip
      · exact hw.strip
    have := hst.2 n hn
    omega
  | whole a2 b2 U V hS _ _ hUV =>
    obtain ⟨p, q, rfl, rfl⟩ := strip_app hS
    refine .inl ⟨_, rfl, ?_⟩
    have hw := dp_whole U V
    rcases hUV with ⟨rfl, rfl⟩ | ⟨rfl, rfl⟩
    · exact hw.symm.strip
    · exact hw.strip
end Mine

-- part PlainB
namespace Mine
open PySem PySem.W PySem.Calls PyProof.Rows PySem.Spec
/-- place by place -/
def ham : List Nat → List Nat → Nat
  | x :: a, y :: b => cost x y + ham a b
  | _, _ => 0
theorem ali_ham {a b : List Nat} {n : Nat} (h : Ali a b n) : a.length = b.length → ham a b ≤ n ∨ 4 ≤ n := by
  induction h with
  | nil => intro _; exact .inl (Nat.le_refl _)
  | del x h' _ =>
    intro e
    have := h'.len
    simp only [List.length_cons] at e
    exact .inr (by omega)
  | ins y h' _ =>
    intro e
    have := h'.len
    simp only [List.length_cons] at e
    exact .inr (by omega)
  | sub x y _ ih =>
    intro e
    rcases ih (by simpa using e) with h1 | h1
    · exact .inl (by simp only [ham]; omega)
    · exact .inr (by omega)
theorem cost_two {x y : Nat} (h : Txt.lower (S [x]) ≠ Txt.lower (S [y])) : cost x y = 2 := by
  unfold cost
  rw [if_neg (fun e => h (by rw [e])), if_neg h]
theorem ham_chain : ∀ (t : List Nat) (x y : Nat), Txt.lower (S [x]) ≠ Txt.lower (S [y]) → 2 ≤ ham (x :: t) (t ++ [y])
  | [], x, y, h => by show 2 ≤ cost x y + ham [] []; rw [cost_two h]; omega
  | z :: t, x, y, h => by
    show 2 ≤ cost x z + ham (z :: t) (t ++ [y])
    by_cases e : Txt.lower (S [x]) = Txt.lower (S [z])
    · have := ham_chain t z y (by rw [← e]; exact h)
      omega
    · rw [cost_two e]; omega
theorem turned_least (t : List Nat) : Least (66 :: 97 :: t) (97 :: t ++ [66]) 4 := by
  refine ⟨?_, fun n hn => ?_⟩
  · have h1 : Ali (97 :: t) (97 :: t ++ [66]) 2 := by
      have := (Ali.refl (97 :: t)).app (Ali.ins 66 .nil)
      simpa using this
    exact .del 66 h1
  · rcases ali_ham hn (by simp) with h | h
    · have h1 : ham (66 :: 97 :: t) (97 :: t ++ [66]) = cost 66 97 + ham (97 :: t) (t ++ [66]) := rfl
      have h2 := ham_chain t 97 66 (by decide +kernel)
      have h3 : cost 66 97 = 2 := by decide +kernel
      omega
    · exact h

theorem getD_of {l l' : List Nat} {i j : Nat} (h : l[i]? = l'[j]?) : l.getD i 0 = l'.getD j 0 := by
  rw [List.getD_eq_getElem?_getD, List.getD_eq_getElem?_getD, h]

theorem strip_spread {P m R a2 b2 : List Nat} (h : Strip (P ++ m ++ R) (P ++ R) a2 b2) : b2 = [] := by
  obtain ⟨p, q, a1, b1, ⟨⟨hp0, hp1, hp2, hp⟩, hpe⟩, ha1, hb1, ⟨⟨hq0, hq1, hq2, hs⟩, hse⟩, ha2, hb2⟩ := h
  simp only [List.length_append] at hp1 hp2 hpe
  have hge : P.length ≤ p.toNat := by
    by_cases e : P.length ≤ p.toNat
    · exact e
    · exfalso
      rcases hpe with h1 | h1 | h1
      · omega
      · omega
      · refine h1 (getD_of ?_)
        rw [List.append_assoc, List.getElem?_append_left (by omega), List.getElem?_append_left (by omega)]
  have hb : b1 = a1.drop m.length := by
    rw [hb1, ha1, List.drop_drop, List.append_assoc, List.drop_append, List.drop_append, List.drop_append]
    rw [List.drop_of_length_le (by omega : P.length ≤ p.toNat), List.drop_of_length_le (by omega : P.length ≤ p.toNat + m.length), List.drop_of_length_le (by omega : m.length ≤ p.toNat + m.length - P.length)]
    simp only [List.nil_append]
    congr 1
    omega
  have hal : a1.length = b1.length + m.length := by
    rw [ha1, hb1]
    simp only [List.length_drop, List.length_append]
    omega
  rw [hb2]
  by_cases e : b1.length - (-q).toNat = 0
  · rw [e, List.take_zero]
  · exfalso
    rcases hse with h1 | h1 | h1
    · omega
    · omega
    · refine h1 (getD_of ?_)
      rw [hb, List.getElem?_drop]
      congr 1
      rw [← hb]
      omega
theorem lev_spread {t mk : List Nat} {k : Nat} {c r : Int} (h : LevOut (spreadAt t mk k) t c r) : r = 2 * (mk.length : Int) := by
  have ht : t = t.take k ++ t.drop k := (List.take_append_drop k t).symm
  unfold spreadAt at h
  generalize t.take k = P at *
  generalize t.drop k = R at *
  subst ht
  cases h with
  | same e =>
    have := congrArg List.length e
    simp only [List.length_append] at this
    omega
  | nil a2 b2 hS hn =>
    have e := strip_spread hS
    obtain ⟨p, q, h1, h2⟩ := strip_app hS
    have l1 := congrArg List.length h1
    have l2 := congrArg List.length h2
    simp only [List.length_append] at l1 l2
    subst e
    simp only [List.length_nil] at *
    omega
  | long a2 b2 hS _ h2 _ => exact absurd (strip_spread hS) h2
  | far a2 b2 U V hS _ h2 _ _ _ => exact absurd (strip_spread hS) h2
  | early a2 b2 U V i hS _ h2 _ _ _ => exact absurd (strip_spread hS) h2
  | whole a2 b2 U V hS _ h2 _ => exact absurd (strip_spread hS) h2
end Mine

-- part PlainC
namespace Mine
open PySem PySem.W PySem.Calls PyProof.Rows PySem.Spec
theorem cap_length {mk : List Nat} (h0 : 0 < mk.length) : ∀ {l : List Nat} {g : Bool}, (cap mk g l).length = l.length := by
  have key : ∀ n, ∀ l : List Nat, ∀ g, l.length ≤ n → (cap mk g l).length = l.length := by
    intro n
    induction n with
    | zero =>
      intro l g hl
      have : l = [] := List.length_eq_zero_iff.mp (by omega)
      subst this
      rw [cap_nil]
    | succ n ih =>
      intro l g hl
      cases l with
      | nil => rw [cap_nil]
      | cons x r =>
        by_cases h : (x :: r).take mk.length = mk
        · have hm : mk.length ≤ (x :: r).length := by
            have := congrArg List.length h
            rw [List.length_take] at this
            omega
          rw [cap_mark h0 h, List.length_append, ih _ _ (by rw [List.length_drop]; simp only [List.length_cons] at *; omega), List.length_drop]
          omega
        · rw [cap_sign h, List.length_cons, ih _ _ (by simp only [List.length_cons] at hl; omega)]
          rfl
  intro l g
  exact key l.length l g (Nat.le_refl _)

/-- the same sign by sign: 1 great, 0 small, 2 within a mark -/
def nx (mk : List Nat) (s c : Nat) : Nat := match mk with
  | [a] => if c = a then 1 else 0
  | [a, b] => if s = 2 ∧ c = b then 1 else if c = a then 2 else 0
  | _ => 0
def out (s c : Nat) : Nat := if s = 1 then up c else low c
def capA (mk : List Nat) : Nat → List Nat → List Nat
  | _, [] => []
  | s, x :: r => out s x :: capA mk (nx mk s x) r
theorem capA_half {a b : Nat} {r : List Nat} (h : r.take 1 ≠ [b]) : capA [a, b] 2 r = capA [a, b] 0 r := by
  cases r with
  | nil => rfl
  | cons y q =>
    have hy : y ≠ b := fun e => h (by rw [e]; rfl)
    have e : nx [a, b] 2 y = nx [a, b] 0 y := by
      show (if 2 = 2 ∧ y = b then 1 else if y = a then 2 else 0) = (if 0 = 2 ∧ y = b then 1 else if y = a then 2 else 0)
      rw [if_neg (c := 2 = 2 ∧ y = b) (fun h => hy h.2), if_neg (c := 0 = 2 ∧ y = b) (fun h => absurd h.1 (by decide))]
    show out 2 y :: capA [a, b] (nx [a, b] 2 y) q = out 0 y :: capA [a, b] (nx [a, b] 0 y) q
    rw [e]
    rfl
theorem out_still {s c : Nat} (h : c = 45 ∨ c = 95) : out s c = c := by
  unfold out
  rcases h with rfl | rfl <;> split <;> rfl
theorem cap_capA {mk : List Nat} (hm : MarkOk mk) : ∀ (l : List Nat) (g : Bool), cap mk g l = capA mk (if g then 1 else 0) l := by
  have h0 := hm.len.1
  have key : ∀ n, ∀ l : List Nat, ∀ g : Bool, l.length ≤ n → cap mk g l = capA mk (if g then 1 else 0) l := by
    intro n
    induction n with
    | zero =>
      intro l g hl
      have : l = [] := List.length_eq_zero_iff.mp (by omega)
      subst this
      rw [cap_nil]; rfl
    | succ n ih =>
      intro l g hl
      cases l with
      | nil => rw [cap_nil]; rfl
      | cons x r =>
        have hr : r.length ≤ n := by simp only [List.length_cons] at hl; omega
        have hs : (if g = true then 1 else 0) = 1 ∨ (if g = true then 1 else 0) = (0 : Nat) := by cases g <;> simp
        have ho : (if g = true then up x else low x) = out (if g = true then 1 else 0) x := by cases g <;> rfl
        have one : ∀ a, mk = [a] → (a = 45 ∨ a = 95) → cap mk g (x :: r) = capA mk (if g then 1 else 0) (x :: r) := by
          intro a e ha
          subst e
          by_cases h : x = a
          · subst h
            rw [cap_mark h0 (by rfl)]
            show [x] ++ cap [x] true r = out _ x :: capA [x] (nx [x] _ x) r
            rw [out_still ha, show ∀ s, nx [x] s x = 1 from fun s => if_pos rfl, ih r true hr]
            rfl
          · rw [cap_sign (fun e => h (by simpa using e))]
            show _ = out _ x :: capA [a] (nx [a] _ x) r
            rw [show ∀ s, nx [a] s x = 0 from fun s => if_neg h, ih r false hr, ho]
            rfl
        have two : ∀ a b, mk = [a, b] → (a = 45 ∨ a = 95) → (b = 45 ∨ b = 95) → cap mk g (x :: r) = capA mk (if g then 1 else 0) (x :: r) := by
          intro a b e ha hb
          subst e
          have n1 : ∀ s, s = 1 ∨ s = 0 → nx [a, b] s x = if x = a then 2 else 0 := by
            intro s hs
            show (if s = 2 ∧ x = b then 1 else if x = a then 2 else 0) = _
            rw [if_neg (by rintro ⟨e, _⟩; omega)]
          by_cases h : (x :: r).take 2 = [a, b]
          · cases r with
            | nil => simp at h
            | cons y q =>
              have hx : x = a := by simpa using (congrArg List.head? h)
              have hy : y = b := by
                have := congrArg (fun l => l[1]?) h
                simpa using this
              subst hx hy
              rw [cap_mark h0 h]
              show [x, y] ++ cap [x, y] true q = out _ x :: capA [x, y] (nx [x, y] _ x) (y :: q)
              rw [n1 _ hs, if_pos rfl, out_still ha]
              show [x, y] ++ cap [x, y] true q = x :: out 2 y :: capA [x, y] (nx [x, y] 2 y) q
              rw [out_still hb, show nx [x, y] 2 y = 1 from if_pos ⟨rfl, rfl⟩, ih q true (by simp only [List.length_cons] at hr; omega)]
              rfl
          · rw [cap_sign (mk := [a, b]) h]
            show _ = out _ x :: capA [a, b] (nx [a, b] _ x) r
            rw [n1 _ hs, ho, ih r false hr]
            by_cases hx : x = a
            · rw [if_pos hx, capA_half]
              · rfl
              · intro e
                refine h ?_
                cases r with
                | nil => simp at e
                | cons y q =>
                  have : y = b := by simpa using e
                  rw [hx, this]
                  rfl
            · rw [if_neg hx]
              rfl
        rcases hm with e | e | e
        · exact one 45 e (.inl rfl)
        · exact two 95 45 e (.inr rfl) (.inl rfl)
        · exact two 45 45 e (.inl rfl) (.inl rfl)
  intro l g
  exact key l.length l g (Nat.le_refl _)
/-- whether a sign bears the wrong size -/
def cst (s c : Nat) : Nat := if out s c = c then 0 else 1
def dueA (mk : List Nat) : Nat → List Nat → Nat
  | _, [] => 0
  | s, x :: r => cst s x + dueA mk (nx mk s x) r
def letter (c : Nat) : Prop := c = 97 ∨ c = 65 ∨ c = 98 ∨ c = 66
theorem nx_letter {mk : List Nat} (hm : MarkOk mk) {s c : Nat} (h : letter c) : nx mk s c = 0 := by
  rcases hm with rfl | rfl | rfl
  · exact if_neg (by rintro rfl; revert h; unfold letter; omega)
  · show (if s = 2 ∧ c = 45 then 1 else if c = 95 then 2 else 0) = 0
    unfold letter at h
    rw [if_neg (by omega), if_neg (by omega)]
  · show (if s = 2 ∧ c = 45 then 1 else if c = 45 then 2 else 0) = 0
    unfold letter at h
    rw [if_neg (by omega), if_neg (by omega)]
theorem sign_cases {c : Nat} (h : c ∈ signs) : letter c ∨ c = 45 ∨ c = 95 := by
  simp only [signs, List.mem_cons, List.not_mem_nil, or_false] at h
  unfold letter
  omega
theorem cst_le (s c : Nat) : cst s c ≤ 1 := by unfold cst; split <;> omega
theorem cst_still {s c : Nat} (h : c = 45 ∨ c = 95) : cst s c = 0 := by unfold cst; rw [if_pos (out_still h)]
theorem cost_cases : ∀ x ∈ signs, ∀ y ∈ signs, x = y ∨ (cost x y = 1 ∧ (x = 97 ∨ x = 65 ∨ x = 98 ∨ x = 66) ∧ (y = 97 ∨ y = 65 ∨ y = 98 ∨ y = 66)) ∨ cost x y = 2 := by decide +kernel
def pot (s t : Nat) : Nat := if s = t then 0 else 1
theorem pot_le (s t : Nat) : pot s t ≤ 1 := by unfold pot; split <;> omega
theorem pot_self (s : Nat) : pot s s = 0 := if_pos rfl
/-- no alignment is cheaper than the difference of what is due -/
theorem lip {mk : List Nat} (hm : MarkOk mk) {a b : List Nat} {n : Nat} (h : Ali a b n) : Al a → Al b → ∀ s t, dueA mk s a ≤ n + dueA mk t b + pot s t := by
  induction h with
  | nil => intro _ _ s t; simp [dueA]
  | @del x a b n _ ih =>
    intro ha hb s t
    have h1 := ih (fun c hc => ha c (.tail _ hc)) hb (nx mk s x) t
    have h2 := pot_le (nx mk s x) t
    have h3 := cst_le s x
    show cst s x + dueA mk (nx mk s x) a ≤ _
    omega
  | @ins y a b n _ ih =>
    intro ha hb s t
    have h1 := ih ha (fun c hc => hb c (.tail _ hc)) s (nx mk t y)
    have h2 := pot_le s (nx mk t y)
    show _ ≤ n + 2 + (cst t y + dueA mk (nx mk t y) b) + pot s t
    omega
  | @sub x y a b n _ ih =>
    intro ha hb s t
    have h1 := ih (fun c hc => ha c (.tail _ hc)) (fun c hc => hb c (.tail _ hc)) (nx mk s x) (nx mk t y)
    have h2 := cst_le s x
    have h3 := pot_le (nx mk s x) (nx mk t y)
    show cst s x + dueA mk (nx mk s x) a ≤ n + cost x y + (cst t y + dueA mk (nx mk t y) b) + pot s t
    rcases cost_cases x (ha x (.head _)) y (hb y (.head _)) with e | ⟨e, hx, hy⟩ | e
    · subst e
      rw [cost_self]
      by_cases est : s = t
      · subst est
        rw [pot_self] at h1
        omega
      · have hp : pot s t = 1 := if_neg est
        rcases sign_cases (ha x (.head _)) with hl | hl
        · rw [nx_letter hm hl, nx_letter hm hl, pot_self] at h1
          rw [nx_letter hm hl, nx_letter hm hl]
          omega
        · rw [cst_still hl]
          omega
    · rw [nx_letter hm hx, nx_letter hm hy, pot_self] at h1
      rw [nx_letter hm hx, nx_letter hm hy]
      omega
    · omega
theorem out_sign : ∀ x ∈ signs, (up x = x ∨ ((x = 97 ∨ x = 65 ∨ x = 98 ∨ x = 66) ∧ (up x = 97 ∨ up x = 65 ∨ up x = 98 ∨ up x = 66))) ∧ (low x = x ∨ ((x = 97 ∨ x = 65 ∨ x = 98 ∨ x = 66) ∧ (low x = 97 ∨ low x = 65 ∨ low x = 98 ∨ low x = 66))) ∧ up (up x) = up x ∧ low (low x) = low x ∧ up x ∈ signs ∧ low x ∈ signs ∧ cost x (up x) = (if up x = x then 0 else 1) ∧ cost x (low x) = (if low x = x then 0 else 1) := by decide +kernel
theorem out_out {s x : Nat} (h : x ∈ signs) : out s (out s x) = out s x := by
  obtain ⟨_, _, h1, h2, _⟩ := out_sign x h
  unfold out
  split <;> assumption
theorem out_al {s x : Nat} (h : x ∈ signs) : out s x ∈ signs := by
  obtain ⟨_, _, _, _, h1, h2, _⟩ := out_sign x h
  unfold out
  split <;> assumption
theorem nx_out {mk : List Nat} (hm : MarkOk mk) {s x : Nat} (h : x ∈ signs) : nx mk s (out s x) = nx mk s x := by
  obtain ⟨h1, h2, _⟩ := out_sign x h
  unfold out
  split
  · rcases h1 with e | ⟨e1, e2⟩
    · rw [e]
    · rw [nx_letter hm e1, nx_letter hm e2]
  · rcases h2 with e | ⟨e1, e2⟩
    · rw [e]
    · rw [nx_letter hm e1, nx_letter hm e2]
theorem capA_al {mk : List Nat} : ∀ {l : List Nat} {s : Nat}, Al l → Al (capA mk s l)
  | [], _, h => h
  | x :: r, s, h => by
    intro c hc
    rcases List.mem_cons.mp hc with e | hc
    · rw [e]; exact out_al (h x (.head _))
    · exact capA_al (fun c hc => h c (.tail _ hc)) c hc
theorem capA_due {mk : List Nat} (hm : MarkOk mk) : ∀ {l : List Nat} {s : Nat}, Al l → dueA mk s (capA mk s l) = 0
  | [], _, _ => rfl
  | x :: r, s, h => by
    show cst s (out s x) + dueA mk (nx mk s (out s x)) (capA mk (nx mk s x) r) = 0
    rw [nx_out hm (h x (.head _)), capA_due hm (fun c hc => h c (.tail _ hc))]
    unfold cst
    rw [if_pos (out_out (h x (.head _)))]
theorem capA_ali {mk : List Nat} : ∀ {l : List Nat} {s : Nat}, Al l → Ali l (capA mk s l) (dueA mk s l)
  | [], _, _ => .nil
  | x :: r, s, h => by
    have h1 := Ali.sub x (out s x) (capA_ali (mk := mk) (s := nx mk s x) (fun c hc => h c (.tail _ hc) : Al r))
    have h2 : cost x (out s x) = cst s x := by
      obtain ⟨_, _, _, _, _, _, e1, e2⟩ := out_sign x (h x (.head _))
      unfold cst out
      split <;> assumption
    rw [h2, Nat.add_comm] at h1
    exact h1
/-- how many places part -/
def mism : List Nat → List Nat → Nat
  | x :: a, y :: b => (if x = y then 0 else 1) + mism a b
  | _, _ => 0
theorem mism_app : ∀ {a b : List Nat} (c d : List Nat), a.length = b.length → mism (a ++ c) (b ++ d) = mism a b + mism c d
  | [], [], c, d, _ => by simp [mism]
  | x :: a, y :: b, c, d, h => by
    show (if x = y then 0 else 1) + mism (a ++ c) (b ++ d) = (if x = y then 0 else 1) + mism a b + mism c d
    rw [mism_app c d (by simpa using h)]
    omega
  | [], _ :: _, _, _, h => by simp at h
  | _ :: _, [], _, _, h => by simp at h
theorem ks_succ (n : Nat) : rangeKs 0 (n + 1) = rangeKs 0 n ++ [(n : Int)] := by
  unfold rangeKs
  rw [List.range_succ, List.map_append]
  simp
theorem dueL_len {t c : List Nat} (h : t.length = c.length) : ∀ n, n ≤ t.length → ((rangeKs 0 n).foldl (dueG t c) []).length = mism (t.take n) (c.take n)
  | 0, _ => by simp [rangeKs, mism]
  | n + 1, hn => by
    have ih := dueL_len h n (by omega)
    rw [ks_succ, List.foldl_append, List.foldl_cons, List.foldl_nil]
    rw [take_succ_getD t n (by omega), take_succ_getD c n (by omega), mism_app _ _ (by simp only [List.length_take]; omega), ← ih]
    show (dueG t c _ (n : Int)).length = _ + ((if t.getD n 0 = c.getD n 0 then 0 else 1) + 0)
    unfold dueG
    rw [Int.toNat_natCast]
    split
    · simp
    · simp
theorem due_mism {t c : List Nat} (h : t.length = c.length) : due t c = (mism t c : Int) := by
  unfold due dueL
  rw [dueL_len h t.length (Nat.le_refl _), List.take_length, h, List.take_length]
theorem mism_dueA {mk : List Nat} : ∀ {l : List Nat} {s : Nat}, mism l (capA mk s l) = dueA mk s l
  | [], _ => rfl
  | x :: r, s => by
    show (if x = out s x then 0 else 1) + mism r (capA mk (nx mk s x) r) = cst s x + dueA mk (nx mk s x) r
    rw [mism_dueA]
    unfold cst
    by_cases e : out s x = x
    · rw [if_pos e, if_pos e.symm]
    · rw [if_neg e, if_neg (fun q => e q.symm)]
theorem due_is {t mk : List Nat} (hm : MarkOk mk) : due t (cap mk true t) = (dueA mk 1 t : Int) := by
  rw [due_mism (by rw [cap_length hm.len.1]), cap_capA hm, if_pos rfl, mism_dueA]
theorem due_far {t o mk : List Nat} {n : Nat} (hm : MarkOk mk) (ha : Al t) (hb : Al o) (h : Ali t (cap mk true o) n) : due t (cap mk true t) ≤ (n : Int) := by
  rw [due_is hm]
  rw [cap_capA hm, if_pos rfl] at h
  have := lip hm h ha (capA_al hb) 1 1
  rw [capA_due hm hb, pot_self] at this
  omega
theorem due_near {t mk : List Nat} (hm : MarkOk mk) (ha : Al t) : ∃ n : Nat, due t (cap mk true t) = (n : Int) ∧ Ali t (cap mk true t) n := by
  refine ⟨dueA mk 1 t, due_is hm, ?_⟩
  rw [cap_capA hm, if_pos rfl]
  exact capA_ali ha
theorem lev_far {t o mk : List Nat} {r : Int} (hm : MarkOk mk) (ha : Al t) (hb : Al o) (h : LevOut t (cap mk true o) (due t (cap mk true t) - 1) r) : due t (cap mk true t) ≤ r := by
  rcases lev_spec h with ⟨n, e, hn⟩ | ⟨e, _⟩
  · rw [e]; exact due_far hm ha hb hn.1
  · omega
theorem lev_same {t mk : List Nat} {k r : Int} (hm : MarkOk mk) (ha : Al t) (hl : t.length ≤ 40) (h : LevOut t (cap mk true t) k r ∨ LevOut (cap mk true t) t k r) (hk : k = due t (cap mk true t) ∨ k = due t (cap mk true t) + 1 ∨ k = due t (cap mk true t) - 1) : r = due t (cap mk true t) := by
  have hcl : (cap mk true t).length = t.length := cap_length hm.len.1
  have h' : (∃ n : Nat, r = (n : Int) ∧ Least t (cap mk true t) n) ∨ (r = k + 1 ∧ ((∀ n, Ali t (cap mk true t) n → k < (n : Int)) ∨ 40 < t.length)) := by
    rcases h with h | h
    · rcases lev_spec h with h1 | ⟨e, h1 | h1 | h1⟩
      · exact .inl h1
      · exact .inr ⟨e, .inl h1⟩
      · exact .inr ⟨e, .inr h1⟩
      · exact .inr ⟨e, .inr (by omega)⟩
    · rcases lev_spec h with ⟨n, e, h1⟩ | ⟨e, h1 | h1 | h1⟩
      · exact .inl ⟨n, e, h1.symm⟩
      · exact .inr ⟨e, .inl fun n hn => h1 n hn.symm⟩
      · exact .inr ⟨e, .inr (by omega)⟩
      · exact .inr ⟨e, .inr h1⟩
  obtain ⟨d, hd, hA⟩ := due_near hm ha
  rcases h' with ⟨n, e, hn⟩ | ⟨e, h1 | h1⟩
  · have h1 := due_far hm ha ha hn.1
    have h2 := hn.2 d hA
    omega
  · have := h1 d hA
    omega
  · omega
theorem lev_turned {ns : List Int} {mk c : List Nat} {k r : Int} (hm : MarkOk mk) (hc : c = cap mk true ((whole ns).take 8)) (h : LevOut c (c.drop 1 ++ c.take 1) k r ∨ LevOut (c.drop 1 ++ c.take 1) c k r) (hk : k = 4 ∨ k = 3) : r = 4 := by
  have hcl : c.length ≤ 8 := by rw [hc, cap_length hm.len.1, List.length_take]; omega
  obtain ⟨t, ht⟩ : ∃ t, c = 66 :: 97 :: t := by
    rw [hc, cap_capA hm, if_pos rfl]
    refine ⟨capA mk 0 (((ns.map sg)).take 6), ?_⟩
    show capA mk 1 (98 :: 65 :: ((ns.map sg)).take 6) = _
    show out 1 98 :: out (nx mk 1 98) 65 :: capA mk (nx mk (nx mk 1 98) 65) _ = _
    rw [nx_letter hm (show letter 98 by unfold letter; omega), nx_letter hm (show letter 65 by unfold letter; omega)]
    rfl
  have hL : Least c (c.drop 1 ++ c.take 1) 4 := by
    rw [ht]
    exact turned_least t
  have hl2 : (c.drop 1 ++ c.take 1).length ≤ 40 := by simp only [List.length_append, List.length_drop, List.length_take]; omega
  have h' : (∃ n : Nat, r = (n : Int) ∧ Least c (c.drop 1 ++ c.take 1) n) ∨ (r = k + 1 ∧ (∀ n, Ali c (c.drop 1 ++ c.take 1) n → k < (n : Int))) := by
    rcases h with h | h
    · rcases lev_spec h with h1 | ⟨e, h1 | h1 | h1⟩
      · exact .inl h1
      · exact .inr ⟨e, h1⟩
      · omega
      · omega
    · rcases lev_spec h with ⟨n, e, h1⟩ | ⟨e, h1 | h1 | h1⟩
      · exact .inl ⟨n, e, h1.symm⟩
      · exact .inr ⟨e, fun n hn => h1 n hn.symm⟩
      · omega
      · omega
  rcases h' with ⟨n, e, hn⟩ | ⟨e, h1⟩
  · have h1 := hL.2 n hn.1
    have h2 := hn.2 4 hL.1
    omega
  · have := h1 4 hL.1
    omega
end Mine

-- part PlainE
namespace Mine
open PySem PySem.W PySem.Calls PyProof.Rows PySem.Spec PySem.Builtin PySem.Builtin.Str
set_option maxRecDepth 10000
def capP : Bool → List Nat → List Nat
  | _, [] => []
  | g, x :: r => (if g then up x else low x) :: capP false r
theorem capP_false : ∀ r, capP false r = r.map low
  | [] => rfl
  | x :: r => by show low x :: capP false r = _; rw [capP_false r]; rfl
theorem cap_free {mk : List Nat} : ∀ {l : List Nat} {g : Bool}, (∀ k, (l.drop k).take mk.length = mk → False) → cap mk g l = capP g l
  | [], g, _ => by rw [cap_nil]; rfl
  | x :: r, g, h => by
    rw [cap_sign (h 0), cap_free (fun k hk => h (k + 1) hk)]
    rfl
theorem cap_upto {mk q : List Nat} (h0 : 0 < mk.length) : ∀ {p : List Nat} {g : Bool}, (∀ k, k < p.length → ((p ++ (mk ++ q)).drop k).take mk.length = mk → False) → cap mk g (p ++ (mk ++ q)) = capP g p ++ (mk ++ cap mk true q)
  | [], g, _ => by
    show cap mk g (mk ++ q) = mk ++ cap mk true q
    rw [cap_mark h0 (by simp)]
    simp
  | x :: p, g, h => by
    show cap mk g (x :: (p ++ (mk ++ q))) = _
    rw [cap_sign (x := x) (r := p ++ (mk ++ q)) (h 0 (by simp)), cap_upto h0 (fun k hk => h (k + 1) (by simp; omega))]
    rfl
theorem ascii_lower : ∀ c, c < 128 → Unicode.lowerOf c = [low c] := by decide +kernel
theorem ascii_title : ∀ c, c < 128 → Unicode.titleOf c = [up c] := by decide +kernel
theorem capitalize_S {l : List Nat} (h : ∀ c ∈ l, c < 128) : Txt.capitalize (S l) = S (capP true l) := by
  cases l with
  | nil => rfl
  | cons x r =>
    unfold Txt.capitalize
    rw [if_neg (by rw [S_length]; simp)]
    apply Str.ext'
    apply Array.toList_inj.mp
    show (placed (S (x :: r)) _).toList = _
    unfold placed
    rw [Array.toList_flatten, Array.toList_mapIdx, S_cps, S_cps]
    have e : ((x :: r).mapIdx fun i c => (if (i == 0) = true then Unicode.titleOf c else Unicode.lowerAt (S (x :: r)).cps i).toArray).map Array.toList = ((x :: r).mapIdx fun i c => if i = 0 then up c else low c).map fun y => [y] := by
      apply List.ext_getElem
      · simp
      · intro i h1 h2
        simp only [List.length_map, List.length_mapIdx] at h1 h2
        have hc := h _ (List.getElem_mem h1)
        simp only [List.getElem_map, List.getElem_mapIdx]
        by_cases hi : i = 0
        · subst hi
          simp only [beq_self_eq_true, if_true]
          rw [ascii_title _ hc]
        · have : (i == 0) = false := by simpa using hi
          rw [this, if_neg hi]
          simp only [Bool.false_eq_true, if_false]
          unfold Unicode.lowerAt
          have e2 : (S (x :: r)).cps[i]? = some ((x :: r)[i]) := by simp [S, h1]
          rw [e2]
          simp only
          rw [show ((x :: r)[i] == 0x3A3) = false from by simp only [beq_eq_false_iff_ne]; omega]
          simp only [Bool.false_and, Bool.false_eq_true, if_false]
          rw [ascii_lower _ hc]
    rw [e]
    rw [show ∀ ys : List Nat, (ys.map fun y => [y]).flatten = ys from fun ys => by induction ys with | nil => rfl | cons a b ih => simp only [List.map_cons, List.flatten_cons, ih]; rfl]
    rw [List.mapIdx_cons]
    show up x :: _ = up x :: capP false r
    rw [capP_false]
    congr 1
    apply List.ext_getElem
    · simp
    · intro i h1 h2
      simp
theorem sub_S (l : List Nat) (i j : Nat) : strSub (S l) i j = S ((l.drop i).take (j - i)) := by
  apply Str.ext'
  apply Array.toList_inj.mp
  rw [StrLaws.strSub_toList, S_cps, S_cps]
theorem at_S {tx mk : List Nat} {k : Nat} : StrLaws.At (S tx) (S mk) (S tx).length k ↔ k + mk.length ≤ tx.length ∧ (tx.drop k).take mk.length = mk := by
  unfold StrLaws.At
  rw [StrLaws.subAt_eq, S_cps, S_cps, S_length, S_length, beq_iff_eq]
theorem not_at {tx mk : List Nat} {k : Nat} (h0 : 0 < mk.length) (h : ¬ StrLaws.At (S tx) (S mk) (S tx).length k) : (tx.drop k).take mk.length = mk → False := by
  intro e
  refine h (at_S.mpr ⟨?_, e⟩)
  have := congrArg List.length e
  rw [List.length_take, List.length_drop] at this
  omega
theorem parts_cap {tx mk : List Nat} (h0 : 0 < mk.length) (ha : ∀ c ∈ tx, c < 128) : ∀ (cuts : List Nat) (a f : Nat), StrLaws.ChainG (S tx) (S mk) (S tx).length a cuts f → (∀ k, f ≤ k → ¬ StrLaws.At (S tx) (S mk) (S tx).length k) → a ≤ tx.length →
    Str.join (S mk) ((StrLaws.partsFrom (S tx) (S mk).length a cuts).map Txt.capitalize) = S (cap mk true (tx.drop a))
  | [], a, f, h, hf, hal => by
    have e : f = a := h
    subst e
    show Txt.capitalize (strSub (S tx) f (S tx).length) = _
    rw [sub_S, S_length, List.take_of_length_le (by rw [List.length_drop]; omega), capitalize_S (fun c hc => ha c (List.mem_of_mem_drop hc)), cap_free]
    intro k hk
    rw [List.drop_drop] at hk
    exact not_at h0 (hf (f + k) (by omega)) hk
  | c :: r, a, f, h, hf, hal => by
    obtain ⟨h1, h2, h3, h4⟩ := h
    obtain ⟨hc1, hc2⟩ := at_S.mp h2
    have ih := parts_cap h0 ha r (c + (S mk).length) f h4 hf (by rw [S_length]; omega)
    obtain ⟨p, q, e⟩ := StrLaws.partsFrom_ne (S tx) (S mk).length (c + (S mk).length) r
    show Str.join (S mk) (Txt.capitalize (strSub (S tx) a c) :: (StrLaws.partsFrom (S tx) (S mk).length (c + (S mk).length) r).map Txt.capitalize) = _
    rw [e] at ih ⊢
    show Txt.capitalize (strSub (S tx) a c) ++ S mk ++ Str.join (S mk) ((p :: q).map Txt.capitalize) = _
    rw [ih, sub_S, capitalize_S (fun c hc => ha c (List.mem_of_mem_drop (List.mem_of_mem_take hc))), S_append, S_append, S_length]
    have e1 : tx.drop c = mk ++ tx.drop (c + mk.length) := by
      rw [← List.drop_drop]
      conv => lhs; rw [← List.take_append_drop mk.length (tx.drop c), hc2]
    have e2 : tx.drop a = (tx.drop a).take (c - a) ++ (mk ++ tx.drop (c + mk.length)) := by
      rw [← e1]
      conv => lhs; rw [← List.take_append_drop (c - a) (tx.drop a)]
      rw [List.drop_drop, show a + (c - a) = c by omega]
    have e3 : cap mk true (tx.drop a) = capP true ((tx.drop a).take (c - a)) ++ (mk ++ cap mk true (tx.drop (c + mk.length))) := by
      conv => lhs; rw [e2]
      apply cap_upto h0
      intro k hk hq
      rw [← e2, List.drop_drop] at hq
      rw [List.length_take, List.length_drop] at hk
      exact not_at h0 (h3 (a + k) (by omega) (by omega)) hq
    rw [e3, List.append_assoc]
theorem split_parts {tx mk : List Nat} (h0 : 0 < mk.length) (hm : strKind (S mk) = 1) : Txt.split (S tx) (S mk) = StrLaws.partsFrom (S tx) (S mk).length 0 (occurrences (S tx) (S mk) 0 (S tx).length ((S tx).length + 1)) := by
  have h1 : 1 ≤ (S mk).length := by rw [S_length]; exact h0
  obtain ⟨f, hch, _⟩ := StrLaws.occ_tight (S tx) (S mk) h1
  have one : occurrences (S tx) (S mk) 0 (S tx).length ((S tx).length + 1) = [] → [S tx] = StrLaws.partsFrom (S tx) (S mk).length 0 (occurrences (S tx) (S mk) 0 (S tx).length ((S tx).length + 1)) := by
    intro e
    rw [e]
    show _ = [strSub (S tx) 0 (S tx).length]
    rw [StrLaws.sub_whole]
  unfold Txt.split
  split
  · rename_i hc
    apply one
    have hk : 1 ≤ strKind (S tx) := by unfold Str.strKind; split <;> (try split) <;> decide
    rw [hm, Bool.or_eq_true, decide_eq_true_eq, decide_eq_true_eq] at hc
    have hlt : (S tx).length < (S mk).length := by omega
    cases ho : occurrences (S tx) (S mk) 0 (S tx).length ((S tx).length + 1) with
    | nil => rfl
    | cons c r =>
      rw [ho] at hch
      have := hch.2.1.1
      omega
  · split
    · rename_i hc
      apply one
      simpa using hc
    · exact StrLaws.partsBetween_eq _ _ _
theorem cw_eq {tx mk : List Nat} (hm : MarkOk mk) (ha : Al tx) : Txt.join (S mk) ((Txt.split (S tx) (S mk)).map Txt.capitalize) = S (cap mk true tx) := by
  have h0 := hm.len.1
  have hk : strKind (S mk) = 1 := by rcases hm with rfl | rfl | rfl <;> decide +kernel
  have h1 : 1 ≤ (S mk).length := by rw [S_length]; exact h0
  obtain ⟨f, hch, hf⟩ := StrLaws.occ_tight (S tx) (S mk) h1
  show glued _ _ = _
  rw [StrLaws.glued_eq_join, split_parts h0 hk, parts_cap h0 ha.lt _ 0 f hch hf (Nat.zero_le _), List.drop_zero]
end Mine

-- part LawR
namespace Mine
open PySem PySem.W PySem.Calls PyProof.Rows PySem.Spec
set_option maxRecDepth 100000
/-- behind a statement: the frame and the ledger as told -/
def Aft2 (s : Shared) (g : Heap) (L : Addr) (P : (Str → Option Value) → List (Addr × Obj) → Prop) (fl : Flow) (s' : Shared) : Prop :=
  fl = .next ∧ ∃ h' tk' m' news', s' = { s with heap := h', toks := tk' } ∧ Fr g L h' m' ∧ News g L h' news' ∧ P m' news'
theorem Aft2.intro {s : Shared} {g : Heap} {L : Addr} {news all : List (Addr × Obj)} {P : (Str → Option Value) → List (Addr × Obj) → Prop} {h' : Heap} {tk' : Nat} {m' : Str → Option Value} (F : Fr g L h' m') (N : News g L h' all) (sub : ∀ p ∈ news, p ∈ all) (p : P m' news) :
    Aft2 s g L P .next { s with heap := h', toks := tk' } := ⟨rfl, h', tk', m', news, rfl, F, fun q hq => N q (sub q hq), p⟩
theorem aft2_mono {M : Model} {A : Around} {E : Value → Shared → Prop} {s : Shared} {g : Heap} {L : Addr} {m : Str → Option Value} {news₀ : List (Addr × Obj)} (P : (Str → Option Value) → List (Addr × Obj) → Prop) {t : Sem Flow} {Q : Flow → Shared → Prop}
    (_F : Fr g L s.heap m) (_N : News g L s.heap news₀) (h : wpAny M A t (Aft2 s g L P) E s) (k : ∀ h' tk' m' news', Fr g L h' m' → News g L h' news' → P m' news' → Q .next { s with heap := h', toks := tk' }) : wpAny M A t Q E s :=
  wpAny_mono h (fun _ _ ⟨e, h', tk', m', news', e', F, N, p⟩ => by subst e e'; exact k h' tk' m' news' F N p) fun _ _ x => x

section
variable {prog : Program} {w : World} {A : Around} {E : Value → Shared → Prop} {s : Shared} {env : Env} {h₀ : Heap} {x : Str} {body : List Stmt} {Q : Flow → Shared → Prop}
def TurnEnd (h₀ : Heap) (L : Addr) (all : List (Addr × Obj)) (J : (Str → Option Value) → Prop) (s₁ : Shared) (Q : Flow → Shared → Prop) (f : Flow) (s₂ : Shared) : Prop :=
  match f with
  | .ret v => Q (.ret v) s₂
  | .brk => Q .next s₂
  | _ => ∃ h' tk m', s₂ = { s₁ with heap := h', toks := tk } ∧ Fr h₀ L h' m' ∧ News h₀ L h' all ∧ J m'
theorem TurnEnd.intro {L : Addr} {all : List (Addr × Obj)} {J : (Str → Option Value) → Prop} {s₁ : Shared} {h' : Heap} {tk : Nat} {m' : Str → Option Value} (F : Fr h₀ L h' m') (N : News h₀ L h' all) (j : J m') : TurnEnd h₀ L all J s₁ Q .next { s₁ with heap := h', toks := tk } := ⟨h', tk, m', rfl, F, N, j⟩
/-- a for over a list of the ledger's, which the turns leave as it is -/
theorem r_loop {D : Addr} {oD : Obj} {items : Array Value} {c : Nat} {m₀ : Str → Option Value} {news : List (Addr × Obj)} (J : Nat → (Str → Option Value) → Prop)
    (hh : A.handled = none) (F : Fr h₀ env.locals s.heap m₀) (N : News h₀ env.locals s.heap news) (hm : (D, oD) ∈ news) (hc : oD.cls = .type "list") (hd : oD.data = .seq items c) (hj : J 0 m₀)
    (turn : ∀ i v m₁ h tk own, items[i]? = some v → J i m₁ → Fr h₀ env.locals h (fun y => if y = x then some v else m₁ y) → News h₀ env.locals h (news ++ own) →
      wpAny (model prog w) A (execs body env) (TurnEnd h₀ env.locals (news ++ own) (J (i + 1)) { s with heap := h, toks := tk } Q) E { s with heap := h, toks := tk })
    (done : ∀ m₁ h tk, J items.size m₁ → Fr h₀ env.locals h m₁ → News h₀ env.locals h news → Q .next { s with heap := h, toks := tk }) :
    wpAny (model prog w) A (pyIter (.ref D)) (fun it s₂ => LoopAtV prog w A h₀ env x body Q E it s₂) E s := by
  have nD := N _ hm
  have hls : s.heap.IsList D items := ⟨oD, nD.1, hc, c, hd⟩
  have hDlt : D < s.heap.objs.size := Heap.lt_size nD.1
  have hne : D ≠ s.heap.objs.size := Nat.ne_of_lt hDlt
  refine wpAny_pyIter_list hls ?_
  have W := Walks.list (prog := prog) (w := w) hh s.heap.objs.size D hne items
  refine ⟨_, _, _, items.size, _, _, m₀, news, fun i m₁ n₁ => n₁ = news ∧ J i m₁, rfl, W, ?_, ?_, ?_, ⟨⟨_, Heap.get?_push_size _ rfl, rfl, rfl⟩, hls.at fun o e => Heap.get?_push_of_some _ e⟩, F.push _, (fun p hp => ⟨Heap.get?_push_of_some _ (N p hp).1, (N p hp).2⟩), ⟨rfl, hj⟩, ?_, ?_⟩
  · intro hq
    rcases List.mem_cons.mp hq with e | hq
    · exact absurd F.ns.lt (e ▸ Nat.lt_irrefl _)
    · exact nD.2.1 (List.mem_singleton.mp hq).symm
  · intro b hb
    rw [List.mem_singleton.mp hb]
    exact next_is_new F
  · intro p hp hI
    exact absurd (Heap.lt_size (N p hp).1) ((List.mem_singleton.mp hI) ▸ Nat.lt_irrefl _)
  · rintro i v m₁ n₁ s₁ own ⟨hh', tk', rfl⟩ hin hP ⟨rfl, hJ⟩ hoff _ _ _ _ F₁ N₁
    have N₂ : News h₀ env.locals hh' (n₁ ++ own) := fun p hp => N₁ p ((List.mem_append.mp hp).elim (fun h => List.mem_append.mpr (.inr h)) fun h => List.mem_append.mpr (.inl h))
    refine wpAny_mono (turn i v m₁ hh' tk' own hP hJ F₁ N₂) (fun f s₂ p => ?_) fun _ _ e => e
    have fin : (∃ h' tk m', s₂ = { s with heap := h', toks := tk } ∧ Fr h₀ env.locals h' m' ∧ News h₀ env.locals h' (n₁ ++ own) ∧ J (i + 1) m') → LoopStepU h₀ env.locals [s.heap.objs.size] own (fun m₂ n₂ => n₂ = n₁ ∧ J (i + 1) m₂) { s with heap := hh', toks := tk' } .next s₂ := by
      rintro ⟨h', tk, m', e, F', N', hj'⟩
      exact ⟨rfl, h', tk, m', n₁, e, F', fun p hp => N' p ((List.mem_append.mp hp).elim (fun h => List.mem_append.mpr (.inr h)) fun h => List.mem_append.mpr (.inl h)), hoff, rfl, hj'⟩
    cases f with
    | ret v => exact .ret p
    | brk => exact .brk p
    | next => exact .next (fin p)
    | cont => exact .cont (fin p)
  · rintro h' tk m' n' F' N' _ ⟨rfl, hJ⟩
    exact done m' h' tk hJ F' N'
end

section
variable {prog : Program} {w : World} {A : Around} {E : Value → Shared → Prop} {s : Shared} {value slice : Expr} {t u : Tok} {h₀ : Heap} {L D : Addr} {m : Str → Option Value} {news : List (Addr × Obj)} {Q : Value → Shared → Prop}
/-- one of three texts, by a place between 0 and 2 -/
theorem r_pick3 {x y z : Str} {t1 t2 t3 : Tok} {c : Nat} {i : Int} (N : News h₀ L s.heap news) (hm : (D, listOf #[.str x t1, .str y t2, .str z t3] c) ∈ news) (h0 : 0 ≤ i) (h1 : i < 3)
    (h : ∀ v t', (v = x ∨ v = y ∨ v = z) → Q (.str v t') s)
    (hs : subscripted slice false (.ref D) (.int i u) = operate [.ref D, .int i u] (getItem (.ref D) (.int i u)) := by with_unfolding_all rfl) :
    wpAny (model prog w) A (subscriptTail value slice (.ref D) (.int i u)) Q E s := by
  have hl : s.heap.IsList D #[.str x t1, .str y t2, .str z t3] := PySem.IsL.isList (n := c) (N _ hm).1
  have hi : i = 0 ∨ i = 1 ∨ i = 2 := by omega
  rcases hi with rfl | rfl | rfl
  · exact tail_any hl.typeIs slot_list_getitem.lookup (wpAny_getItem_list hl (by decide) (by decide) rfl (h _ _ (.inl rfl))) hs
  · exact tail_any hl.typeIs slot_list_getitem.lookup (wpAny_getItem_list hl (by decide) (by decide) rfl (h _ _ (.inr (.inl rfl)))) hs
  · exact tail_any hl.typeIs slot_list_getitem.lookup (wpAny_getItem_list hl (by decide) (by decide) rfl (h _ _ (.inr (.inr rfl)))) hs

theorem join_singles : ∀ (l : List Int) (f : Int → Nat), Txt.join (Str.ofString "") (l.map fun k => S [f k]) = S (l.map f) := by
  intro l f
  show Builtin.Str.glued _ _ = _
  rw [StrLaws.glued_eq_join]
  induction l with
  | nil => rfl
  | cons a r ih =>
    cases r with
    | nil => rfl
    | cons b q =>
      show S [f a] ++ Str.ofString "" ++ Str.join (Str.ofString "") ((b :: q).map fun k => S [f k]) = _
      rw [ih, show Str.ofString "" = S [] from by decide +kernel, S_append, S_append]
      rfl
theorem r_joinS {f : Int → Nat} {ys : List Value} {l : List Int} {c : Nat} (N : News h₀ L s.heap news) (hm : (D, listOf ys.toArray c) ∈ news) (hc : CarriedAll ys (l.map fun a => PyData.str (S [f a]))) (hn : l.length ≤ 1000)
    (h : ∀ t' k, Q (.str (S (l.map f)) t') { s with toks := k }) : wpAny (model prog w) A (call (.builtin "str.join") [.str (Str.ofString "") t, .ref D]) Q E s :=
  KT.join_1 (g := fun a => S [f a]) (PySem.IsL.isList (n := c) (N _ hm).1) hc (fun a _ => rfl) (by omega) fun t' k _ => by rw [join_singles]; exact h t' k
theorem r_ne_same {x : Str} (h : Q (.bool false) s) : wpAny (model prog w) A (compareOp .NotEq (.str x t) (.str x u)) Q E s :=
  PyProof.Rows.ne_str (by rw [bne_self_eq_false]; exact h)
end

theorem carried_get {g : Int → Str} : ∀ {ys : List Value} {l : List Int}, CarriedAll ys (l.map fun k => PyData.str (g k)) → ∀ {i : Nat} {v : Value}, ys[i]? = some v → ∃ k ∈ l, ∃ t, v = .str (g k) t
  | [], [], _, i, v, h => by simp at h
  | _ :: _, [], h, _, _, _ => nomatch h
  | [], _ :: _, h, _, _, _ => nomatch h
  | y :: r, k :: l, h, i, v, e => by
    cases h with
    | cons h1 h2 =>
      cases i with
      | zero =>
        have e' : y = v := by simpa using e
        subst e'
        cases h1
        exact ⟨k, .head _, _, rfl⟩
      | succ j =>
        obtain ⟨k', hk, t, e'⟩ := carried_get h2 (i := j) (v := v) (by simpa using e)
        exact ⟨k', .tail _ hk, t, e'⟩
theorem carried_len {g : Int → Str} {ys : List Value} {l : List Int} (h : CarriedAll ys (l.map fun k => PyData.str (g k))) : ys.length = l.length := by
  rw [h.length_eq, List.length_map]
theorem last_items {g : Int → Str} {a b : Str} {t1 t2 : Tok} {ys : List Value} {l : List Int} (h : CarriedAll ys (l.map fun k => PyData.str (g k))) {i : Nat} {v : Value}
    (e : (([Value.str a t1, Value.str b t2] ++ ys).toArray)[i]? = some v) : ∃ x t, v = .str x t ∧ (x = a ∨ x = b ∨ ∃ k, x = g k) := by
  have e' : ([Value.str a t1, Value.str b t2] ++ ys)[i]? = some v := by simpa using e
  match i with
  | 0 => exact ⟨a, t1, by simpa using e'.symm, .inl rfl⟩
  | 1 => exact ⟨b, t2, by simpa using e'.symm, .inr (.inl rfl)⟩
  | j + 2 =>
    obtain ⟨k, _, t, hv⟩ := carried_get h (i := j) (v := v) (by simpa using e')
    exact ⟨_, t, hv, .inr (.inr ⟨k, rfl⟩)⟩
theorem cw2_claim {w : World} {mean : ExcName → Option Value} {mg mb : Str → Option Value} (tx mk : List Nat) (tt tm : Tok) (hl : tx.length ≤ 100) (hm : MarkOk mk) (ha : Al tx) :
    Clm PySem.Challenge.rw_ny0069_01.prog w (hd.heap_39 w.params) hd.view_39 loose39 mean mg mb 22 [.str (S tx) tt, .str (S mk) tm] (fun v => ∃ t, v = .str (S (cap mk true tx)) t) 10 := by
  have := cw_claim (w := w) (mean := mean) (mg := mg) (mb := mb) tx mk tt tm hl hm.len.2 hm.len.1
  rw [cw_eq hm ha] at this
  exact this
theorem cap2_claim {w : World} {mean : ExcName → Option Value} {mg mb : Str → Option Value} (tx mk : List Nat) (tt tm : Tok) (hl : tx.length ≤ 100) (hm : MarkOk mk) (ha : Al tx) :
    Clm PySem.Challenge.rw_ny0069_01.prog w (hd.heap_39 w.params) hd.view_39 loose39 mean mg mb 43 [.str (S tx) tt, .str (S mk) tm] (fun v => ∃ t, v = .str (S (cap mk true tx)) t) 10 :=
  cap_claim tx mk tt tm hl hm.len.2 hm.len.1 ha.lt
end Mine

-- part Law
namespace Mine
open PySem PySem.W PySem.Calls PyProof.Rows
set_option maxRecDepth 100000
local macro_rules | `(tactic| cell_enter) => `(tactic| (refine' enter_own ?k1 ?k2 ?k3 ?k5 ?kA ?kF ?kK ?k6 ?k7 ?k8 ?k9 ?kB ?_ ?c2 ?c3 ?c4 ?c5; (case kA => exact rfl); (case kF => exact rfl); (case kK => assumption); (case k1 => k_asm); (case k2 => k_asm); (case k3 => k_asm); (case k5 => k_asm); (case k6 => k_is); (case k7 => k_is); (case k8 => ktr_room); (case k9 => first | exact BindsTo.of_eq rfl | exact binds_K (by k_in) rfl (by k_is) rfl rfl rfl); (case c5 => decide); (case kB => exact locs rfl); (case c2 => exact rfl); (case c3 => exact rfl); (case c4 => exact rfl); k_whole; intro L' h' F' N' B' X' T'; (try dsimp only); (try k_fold)))
local macro_rules | `(tactic| tb_start) => `(tactic| ((try simp only [List.length_drop, List.length_take, List.length_append, List.length_cons, List.length_nil, List.length_map, List.length_range]); omega))
local macro_rules | `(tactic| walk_at "exec While") => `(tactic| (refine Halt.mk ?_))
local macro_rules | `(tactic| walk_at "eval ListComp") => `(tactic| (refine Halt.mk ?_))
local macro_rules | `(tactic| walk_at "exec Assign cons ListComp") => `(tactic| (refine Halt.mk ?_))
local macro_rules | `(tactic| walk_at "eval Name") => `(tactic| (k_here; (with_reducible show wpAny _ _ (eval (Expr.Name _ _) (envOf _ _ _ _ _)) _ _ _); k_dflt (refine' ld ?k1 ?k2 ?_; (case k1 => k_asm); (case k2 => assumption); k_whole)))
local macro_rules | `(tactic| walk_at "subscriptTail Name Slice str ref") => `(tactic| (k_here; (with_reducible show wpAny _ _ (subscriptTail _ (Expr.Slice none none none _) (Value.str (S _) _) _) _ _ _); refine r_nn (s := ⟨_, _, _, _, _⟩) (by k_asm) (by k_asm) (by tb_start) ?_; intro h' t' k' F' N'; (try k_sweep)))
local macro_rules | `(tactic| walk_at "subscriptTail Name Slice str ref") => `(tactic| (k_here; (with_reducible show wpAny _ _ (subscriptTail _ (Expr.Slice none (some _) none _) (Value.str (S _) _) _) _ _ _); first | (refine r_orSlice (s := ⟨_, _, _, _, _⟩) (by k_asm) (by k_asm) (by tb_start) (by tb_start) ?_; intro h' t' k' F' N'; (try k_sweep)) | (refine r_ns (s := ⟨_, _, _, _, _⟩) (by k_asm) (by k_asm) (by tb_start) (by tb_start) ?_; intro h' t' k' F' N'; (try k_sweep)) | (refine r_ns_neg (s := ⟨_, _, _, _, _⟩) (by k_asm) (by k_asm) (by tb_start) (by tb_start) ?_; intro h' t' k' F' N'; (try k_sweep)) | (refine r_nn (s := ⟨_, _, _, _, _⟩) (by k_asm) (by k_asm) (by tb_start) ?_; intro h' t' k' F' N'; (try k_sweep))))
local macro_rules | `(tactic| walk_at "subscriptTail Name Slice str ref") => `(tactic| (k_here; (with_reducible show wpAny _ _ (subscriptTail _ (Expr.Slice (some _) none none _) (Value.str (S _) _) _) _ _ _); refine r_sn (s := ⟨_, _, _, _, _⟩) (by k_asm) (by k_asm) (by tb_start) (by tb_start) ?_; intro h' t' k' F' N'; (try k_sweep)))
local macro_rules | `(tactic| walk_at "subscriptTail Name Slice str ref") => `(tactic| (k_here; (with_reducible show wpAny _ _ (subscriptTail _ (Expr.Slice (some _) (some _) none _) (Value.str (S _) _) _) _ _ _); refine r_ss (s := ⟨_, _, _, _, _⟩) (by k_asm) (by k_asm) (by tb_start) (by tb_start) (by tb_start) ?_; intro h' t' k' F' N'; (try k_sweep)))
local macro_rules | `(tactic| walk_at "subscriptTail Name Name str int") => `(tactic| (k_here; (with_reducible show wpAny _ _ (subscriptTail _ _ (Value.str (S _) _) (Value.int _ _)) _ _ _); first | (refine r_item (by tb_start) (by tb_start) (by tb_start) ?_; intro t' k') | (refine r_item_neg (by tb_start) (by tb_start) (by tb_start) ?_; intro t' k')))
local macro_rules | `(tactic| walk_at "subscriptTail Name BinOp str int") => `(tactic| (k_here; (with_reducible show wpAny _ _ (subscriptTail _ _ (Value.str (S _) _) (Value.int _ _)) _ _ _); first | (refine r_item (by tb_start) (by tb_start) (by tb_start) ?_; intro t' k') | (refine r_item_neg (by tb_start) (by tb_start) (by tb_start) ?_; intro t' k')))
local macro_rules | `(tactic| walk_at "call builtin:len") => `(tactic| (k_here; (with_reducible show wpAny _ _ (call (Value.builtin "len") [Value.str (S _) _]) _ _ _); refine r_len (by tb_start) ?_; intro t' k'))
local macro_rules | `(tactic| walk_at "truthy str") => `(tactic| (k_here; (with_reducible show wpAny _ _ (truthy (Value.str (S _) _)) _ _ _); refine r_truthy2 (by tb_start) ?_ ?_ <;> (intro hT' k'; (try simp only [List.length_drop, List.length_take] at hT'); (try (exfalso; omega)))))
local macro_rules | `(tactic| walk_at "binaryOp Add str str") => `(tactic| (k_here; (with_reducible show wpAny _ _ (binaryOp Operator.Add (Value.str (S _) _) (Value.str (S _) _)) _ _ _); refine r_add (by tb_start) ?_; intro t' k'))
local macro_rules | `(tactic| walk_at "inplaceOp Add str str") => `(tactic| (k_here; (with_reducible show wpAny _ _ (inplaceOp Operator.Add (Value.str (S _) _) (Value.str (S _) _)) _ _ _); refine r_iadd (by tb_start) ?_; intro t' k'))
local macro_rules | `(tactic| walk_at "loadName") => `(tactic| (k_here; k_dflt (refine' ldn ?k1 ?k2 ?_; (case k1 => k_asm); (case k2 => first | exact rfl | assumption); k_whole)))
local macro_rules | `(tactic| walk_at "call builtin:str.upper") => `(tactic| (k_here; (with_reducible show wpAny _ _ (call (Value.builtin "str.upper") [Value.str (S [_]) _]) _ _ _); refine r_upper (getD_lt (by assumption)) ?_; intro t' k'))
local macro_rules | `(tactic| walk_at "call builtin:str.lower") => `(tactic| (k_here; (with_reducible show wpAny _ _ (call (Value.builtin "str.lower") [Value.str (S [_]) _]) _ _ _); refine r_lower (getD_lt (by assumption)) ?_; intro t' k'))
local macro_rules | `(tactic| walk_at "eval BoolOp") => `(tactic| (k_here; (with_reducible show wpAny _ _ (eval (Expr.BoolOp BoolOp.Or [Expr.Name _ _, Expr.Constant Const.none _ _] _) _) _ _ _); k_dflt (refine' r_orNone ?k1 ?k2 ?_; (case k1 => k_asm); (case k2 => first | exact rfl | assumption); k_whole)))
local macro_rules | `(tactic| walk_at "exec If") => `(tactic| (k_here; (with_reducible show wpAny _ _ (exec (Stmt.If _ [Stmt.Assign [Expr.Tuple _ _ _] _ _] [] _) _) _ _ _); refine Halt.mk ?_))
local macro_rules | `(tactic| walk_at "pyIter ref") => `(tactic| (k_here; refine Halt.mk ?_))
local macro_rules | `(tactic| walk_at "call ref") => `(tactic| (k_here; (with_reducible show wpAny _ _ (call (Value.ref 29) [Value.str (S [_]) _, Value.str (S [_]) _]) _ _ _); k_dflt (refine' use_clm (sub_claim _ _ _ _) ?k1 ?k2 ?k3 ?k5 ?k6 ?kK ?kd ?ku ?_; (case k1 => k_asm); (case k2 => k_asm); (case k3 => k_asm); (case k5 => k_asm); (case k6 => k_asm); (case kK => first | exact rfl | assumption); (case kd => ktr_room); (case ku => ktr_units); k_whole); (intro v' h' tk' hp' F' N'); (obtain ⟨t', hv'⟩ := hp'); subst hv'; (try dsimp only); (try k_sweep)))
local macro_rules | `(tactic| walk_at "setItem ref int") => `(tactic| (k_here; (with_reducible show wpAny _ _ (setItem (Value.ref _) (Value.int _ _) (Value.int _ _)) _ _ _); k_dflt (refine' ksa_set ?k1 ?k2 ?k3 ?k4 ?k5 ?k6 ?k7 ?_; (case k1 => k_asm); (case k2 => k_asm); (case k3 => exact Upd.head (by assumption)); (case k4 => with_reducible assumption); (case k5 => tb_start); (case k6 => tb_start); (case k7 => tb_start); k_whole); intro h' F' N' hi' hl' hs'; (try k_sweep)))
local macro_rules | `(tactic| walk_at "subscriptTail Name Name ref int") => `(tactic| (k_here; (with_reducible show wpAny _ _ (subscriptTail _ _ (Value.ref _) (Value.int _ _)) _ _ _); k_dflt (refine' ksa_sub ?k1 ?k2 ?k3 ?k4 ?k5 ?k6 ?_ ?k7; (case k1 => k_asm); (case k2 => k_mem); (case k3 => with_reducible assumption); (case k4 => tb_start); (case k5 => tb_start); (case k6 => tb_start); (case k7 => with_unfolding_all rfl); k_whole); intro t'))
local macro_rules | `(tactic| tb_rel) => `(tactic| repeat' (first | (k_unfold; (try dsimp only)) | walk1 | (dsimp only; walk1) | fail "no step"))
local macro_rules | `(tactic| walk_at "InvEndN") => `(tactic| (refine Halt.mk ?_))
local macro_rules | `(tactic| walk_at "exec Assign") => `(tactic| (refine Halt.mk ?_))
local macro_rules | `(tactic| walk_at "CompSrc") => `(tactic| (refine Halt.mk ?_))
local macro_rules | `(tactic| walk_at "CompSrcT") => `(tactic| (refine Halt.mk ?_))
local macro_rules | `(tactic| walk_at "CompEnd") => `(tactic| (refine Halt.mk ?_))
local macro_rules | `(tactic| walk_at "Aft2") => `(tactic| (refine Halt.mk ?_))
local macro_rules | `(tactic| walk_at "TurnEnd") => `(tactic| (refine Halt.mk ?_))
local macro_rules | `(tactic| walk_at "subscriptTail") => `(tactic| (k_here; (with_reducible show wpAny _ _ (subscriptTail _ _ (Value.ref _) (Value.int _ _)) _ _ _); k_dflt (refine' r_pick3 ?N ?m ?a ?b ?_ ?s; (case N => k_asm); (case m => k_mem); (case a => exact fmod_lo _ (by decide)); (case b => exact fmod_hi _ (by decide)); (case s => with_unfolding_all rfl); k_whole); intro v' t' hv'))
local macro_rules | `(tactic| walk_at "call builtin:str.join") => `(tactic| (k_here; (with_reducible show wpAny _ _ (call (Value.builtin "str.join") [Value.str _ _, Value.ref _]) _ _ _); k_dflt (refine' r_joinS ?N ?m ?c ?z ?_; (case N => k_asm); (case m => k_mem); (case c => assumption); (case z => tb_start); k_whole); intro t' k'))
local macro_rules | `(tactic| walk_at "binaryOp Add str str") => `(tactic| (k_here; (simp only [lit_bA, lit_Ab]); (with_reducible show wpAny _ _ (binaryOp Operator.Add (Value.str (S _) _) (Value.str (S _) _)) _ _ _); refine r_add (by tb_start) ?_; intro t' k'))
local macro_rules | `(tactic| walk_at "eval Name") => `(tactic| (k_here; (with_reducible show wpAny _ _ (eval (Expr.Name _ _) (envOfC _ _ _ _ _)) _ _ _); k_dflt (refine' nameX_L ?F ?v ?_ ?a ?b; (case F => k_asm); (case a => rfl); (case b => rfl); (case v => assumption); k_whole)))
local macro_rules | `(tactic| walk_at "call ref") => `(tactic| (k_here; (with_reducible show wpAny _ _ (call (Value.ref 22) [Value.str (S _) _, Value.str (S _) _]) _ _ _); k_dflt (refine' use_clm (cw2_claim _ _ _ _ ?cl ?cm ?ca) ?k1 ?k2 ?k3 ?k5 ?k6 ?kK ?kd ?ku ?_; (case cl => tb_start); (case cm => assumption); (case ca => assumption); (case k1 => k_asm); (case k2 => k_asm); (case k3 => k_asm); (case k5 => k_asm); (case k6 => k_asm); (case kK => first | exact rfl | assumption); (case kd => ktr_room); (case ku => ktr_units); k_whole); (intro v' h' tk' hp' F' N'); (obtain ⟨t', hv'⟩ := hp'); subst hv'; (try dsimp only); (try k_sweep)))
local macro_rules | `(tactic| walk_at "call ref") => `(tactic| (k_here; (with_reducible show wpAny _ _ (call (Value.ref 43) [Value.str (S _) _, Value.str (S _) _]) _ _ _); k_dflt (refine' use_clm (cap2_claim _ _ _ _ ?cl ?cm ?ca) ?k1 ?k2 ?k3 ?k5 ?k6 ?kK ?kd ?ku ?_; (case cl => tb_start); (case cm => assumption); (case ca => assumption); (case k1 => k_asm); (case k2 => k_asm); (case k3 => k_asm); (case k5 => k_asm); (case k6 => k_asm); (case kK => first | exact rfl | assumption); (case kd => ktr_room); (case ku => ktr_units); k_whole); (intro v' h' tk' hp' F' N'); (obtain ⟨t', hv'⟩ := hp'); subst hv'; (try dsimp only); (try k_sweep)))
local macro_rules | `(tactic| walk_at "call ref") => `(tactic| (k_here; (with_reducible show wpAny _ _ (call (Value.ref 36) [Value.str (S _) _, Value.str (S _) _, Value.int _ _]) _ _ _); k_dflt (refine' use_clm (lev_claim _ _ _ _ _ _ ?cl ?cm) ?k1 ?k2 ?k3 ?k5 ?k6 ?kK ?kd ?ku ?_; (case cl => tb_start); (case cm => tb_start); (case k1 => k_asm); (case k2 => k_asm); (case k3 => k_asm); (case k5 => k_asm); (case k6 => k_asm); (case kK => first | exact rfl | assumption); (case kd => ktr_room); (case ku => ktr_units); k_whole); (intro v' h' tk' hp' F' N'); (obtain ⟨r', t', hv', hlev'⟩ := hp'); subst hv'; (try dsimp only); (try k_sweep)))
local macro_rules | `(tactic| walk_at "compareOp NotEq str str") => `(tactic| (k_here; (with_reducible refine r_ne_same ?_)))
local macro_rules | `(tactic| walk_at "call builtin:len") => `(tactic| (k_here; (with_reducible show wpAny _ _ (call (Value.builtin "len") [Value.ref _]) _ _ _); k_dflt (refine' len_ints_fit (News.isList (by k_asm) (by k_mem)) (by assumption) ?z ?_; (case z => (have hz9 := IntsAre.length (by assumption); omega)); k_whole)))
local macro_rules | `(tactic| walk_at "binaryOp Add ref ref") => `(tactic| (k_here; (with_reducible show wpAny _ _ (binaryOp _ (Value.ref _) (Value.ref _)) _ _ _); k_dflt (refine' kmk_add_lit ?F ?N ?a ?b rfl ?_ ?z; (case F => k_asm); (case N => k_asm); (case a => exact News.isList (by k_asm) (by k_mem)); (case b => exact News.isList (by k_asm) (by k_mem)); (case z => ((simp only [List.length_cons, List.length_nil, sizeLine_eq]); omega)); k_whole); intro D' h' F' N' l1; (try k_lt l1); (try k_sweep)))
local macro_rules | `(tactic| walk_at "exec For Name BinOp") => `(tactic| (refine Halt.mk ?_))
set_option maxHeartbeats 8000000 in
theorem law_holds : PySem.Challenge.rw_ny0069_01.Holds := hd (by
  k_with_none
  k_go0
  all_goals (try k_fold)
  rename_i w s₀ s₁ mg mb G Y fa o pm doc ho hg KX X V GL T B TE TW w12 w11 M w10 w9 hcd ns hs hlay hL1 hr1 hl2 w7 w6 la vs w3 hL ra w1 r0 hI hr hc1 hc2 K0 hD h1 tk1 F oc ot om dc dt dm N0 X0
  have hlen : ns.length ≤ 63 := by omega
  have hvl : vs.toArray.size ≤ sizeLine := by rw [List.size_toArray, hI.length, sizeLine_eq]; omega
  tb_rel
  refine Halt.out ?_
  refine aft2_mono (fun m' news' => m' (Str.ofString "script") = some (.ref la) ∧ ∃ oc ot om mk t, news' = [(s₁.heap.objs.size + 1 + 1 + 1, oc), (s₁.heap.objs.size + 1 + 1, ot), (s₁.heap.objs.size + 1, om)] ∧ oc.data = .cell none ∧ ot.data = .cell none ∧ om.data = .cell (some (.str (S mk) t)) ∧ MarkOk mk) F N0 ?_ ?_
  · refine wpAny_Assign_Name ?_
    tb_rel
    refine Halt.out ?_
    refine LCg.ListComp_U (F₀ := by k_asm) (by with_unfolding_all rfl) (by decide) (by rfl) (by decide) (by rfl) ?_
    tb_rel
    refine Halt.out ?_
    refine LCg.CompSrc.base rfl (by k_asm) (by k_asm) hL hvl ?_
    intro g
    refine kcf_list (fun k => Int.fmod k 3) hI (fun k t I oI C oC D m₂ ys h tk E' hk hC hx F' N' off ne mk => ?_) ?_
    · tb_rel
      refine Halt.out ?_
      exact LCg.CompEnd.intro F' N' _ (fun _ h => h) off (.inl hL) ⟨rfl, _, rfl⟩
    · intro ys hys D h tk F' N' off
      simp only [LCg.Off1, and_true] at off
      tb_rel
      rename (_ = Str.ofString "-" ∨ _) => hv
      obtain ⟨mk, rfl, hmk⟩ := pick_mark hv
      rename Fr _ _ _ _ => FF
      rename News _ _ _ _ => NN
      rename (Obj.data _ = Data.cell (some (Value.str (S mk) _))) => dd
      exact Halt.out <| Aft2.intro FF NN (fun _ h => List.Mem.tail _ (List.Mem.tail _ h)) ⟨rfl, _, _, _, mk, _, rfl, dc, dt, dd, hmk⟩
  clear F X0 N0 dm dc dt om oc ot
  rintro h2 tk2 m2 news2 F2 N2 ⟨em, oc, ot, om, mk, tmk, rfl, dc, dt, dm, hmk⟩
  tb_rel
  refine Halt.out ?_
  refine aft2_mono (fun m' news' => m' (Str.ofString "script") = some (.ref la) ∧ (∃ t, m' (Str.ofString "whole") = some (.str (S (whole ns)) t)) ∧ news' = [(s₁.heap.objs.size + 1 + 1 + 1, oc), (s₁.heap.objs.size + 1 + 1, ot), (s₁.heap.objs.size + 1, om)]) F2 N2 ?_ ?_
  · refine wpAny_Assign_Name ?_
    tb_rel
    refine Halt.out ?_
    refine LCg.ListComp_U (F₀ := by k_asm) (by with_unfolding_all rfl) (by decide) (by rfl) (by decide) (by rfl) ?_
    tb_rel
    refine Halt.out ?_
    refine LCg.CompSrc.base rfl (by k_asm) (by k_asm) hL hvl ?_
    intro g
    refine kct_list (fun k => S [sg k]) hI (fun k t I oI C oC D m₂ ys h tk E' hk hC hx F' N' off ne mk => ?_) ?_
    · tb_rel
      refine Halt.out ?_
      exact LCg.CompEnd.intro F' N' _ (fun _ h => h) off (.inl hL) ⟨rfl, _, by rw [item_sg]⟩
    · intro ys hys _ D h tk F' N' off
      simp only [LCg.Off1, and_true] at off
      tb_rel
      rename Fr _ _ _ _ => FF
      rename News _ _ _ _ => NN
      exact Halt.out <| Aft2.intro FF NN (fun _ h => List.Mem.tail _ h) ⟨em, ⟨_, rfl⟩, rfl⟩
  clear F2 N2 em
  rintro h3 tk3 m3 news3 F3 N3 ⟨em, ⟨twh, ewh⟩, rfl⟩
  have hwl : (whole ns).length ≤ 65 := by simp only [whole, List.length_append, List.length_cons, List.length_nil, List.length_map]; omega
  tb_rel
  refine Halt.out ?_
  refine aft2_mono (fun m' news' => m' (Str.ofString "script") = some (.ref la) ∧ (∃ t, m' (Str.ofString "whole") = some (.str (S (whole ns)) t)) ∧ ∃ ot t, news' = [(s₁.heap.objs.size + 1 + 1 + 1, oc), (s₁.heap.objs.size + 1 + 1, ot), (s₁.heap.objs.size + 1, om)] ∧ ot.data = .cell (some (.str (S ((whole ns).take 8)) t))) F3 N3 ?_ ?_
  · refine wpAny_Assign_Name ?_
    tb_rel
    rename Fr _ _ _ _ => FF
    rename News _ _ _ _ => NN
    rename (Obj.data _ = Data.cell (some (Value.str (S (List.take _ _)) _))) => dd
    exact Halt.out <| Aft2.intro FF NN (fun _ h => h) ⟨em, ⟨_, ewh⟩, _, _, rfl, dd⟩
  clear F3 N3 em ewh dt ot
  rintro h4 tk4 m4 news4 F4 N4 ⟨em, ⟨twh, ewh⟩, ot, ttx, rfl, dt⟩
  tb_rel
  refine Halt.out ?_
  refine aft2_mono (fun m' news' => m' (Str.ofString "script") = some (.ref la) ∧ (∃ t, m' (Str.ofString "whole") = some (.str (S (whole ns)) t)) ∧ (∃ t, m' (Str.ofString "other") = some (.str (S (other ns)) t)) ∧ news' = [(s₁.heap.objs.size + 1 + 1 + 1, oc), (s₁.heap.objs.size + 1 + 1, ot), (s₁.heap.objs.size + 1, om)]) F4 N4 ?_ ?_
  · refine wpAny_Assign_Name ?_
    tb_rel
    refine Halt.out ?_
    refine LCg.ListComp_U (F₀ := by k_asm) (by with_unfolding_all rfl) (by decide) (by rfl) (by decide) (by rfl) ?_
    tb_rel
    refine Halt.out ?_
    rename IntsAre _ (List.take 6 ns) => hI6
    rename News _ _ _ _ => N6
    refine LCg.CompSrc.ledger rfl (by k_asm) N6 (List.Mem.head _) (by rw [List.size_toArray, hI6.length, sizeLine_eq]; simp only [List.length_take]; omega) ?_
    intro g
    refine kct_list (fun k => S [sg2 k]) hI6 (fun k t I oI C oC D m₂ ys h tk E' hk hC hx F' N' off ne mk => ?_) ?_
    · tb_rel
      refine Halt.out ?_
      exact LCg.CompEnd.intro F' N' _ (fun _ h => h) off (.inr ⟨_, List.Mem.head _, rfl, _, rfl⟩) ⟨rfl, _, by rw [item_sg2]⟩
    · intro ys hys _ D h tk F' N' off
      simp only [LCg.Off1, and_true] at off
      tb_rel
      rename Fr _ _ _ _ => FF
      rename News _ _ _ _ => NN
      exact Halt.out <| Aft2.intro FF NN (fun _ h => List.Mem.tail _ (List.Mem.tail _ h)) ⟨em, ⟨_, ewh⟩, ⟨_, rfl⟩, rfl⟩
  clear F4 N4 em ewh
  rintro h5 tk5 m5 news5 F5 N5 ⟨em, ⟨twh, ewh⟩, ⟨tot, eot⟩, rfl⟩
  have hAtx : Al ((whole ns).take 8) := al_take (al_whole ns) 8
  have htl : ((whole ns).take 8).length ≤ 8 := by rw [List.length_take]; omega
  tb_rel
  refine Halt.out ?_
  refine aft2_mono (fun m' news' => (∃ t, m' (Str.ofString "whole") = some (.str (S (whole ns)) t)) ∧ (∃ t, m' (Str.ofString "other") = some (.str (S (other ns)) t)) ∧ ∃ oc t, news' = [(s₁.heap.objs.size + 1 + 1 + 1, oc), (s₁.heap.objs.size + 1 + 1, ot), (s₁.heap.objs.size + 1, om)] ∧ oc.data = .cell (some (.str (S (cap mk true ((whole ns).take 8))) t))) F5 N5 ?_ ?_
  · refine wpAny_Assign_Name ?_
    tb_rel
    rename Fr _ _ _ _ => FF
    rename News _ _ _ _ => NN
    rename (Obj.data _ = Data.cell (some (Value.str (S (cap _ _ _)) _))) => dd
    exact Halt.out <| Aft2.intro FF NN (fun _ h => h) ⟨⟨_, ewh⟩, ⟨_, eot⟩, _, _, rfl, dd⟩
  clear F5 N5 em ewh eot dc oc
  rintro h6 tk6 m6 news6 F6 N6 ⟨⟨twh, ewh⟩, ⟨tot, eot⟩, oc, tcp, rfl, dc⟩
  tb_rel
  refine Halt.out ?_
  have hcl : (cap mk true ((whole ns).take 8)).length = ((whole ns).take 8).length := cap_length hmk.len.1
  obtain ⟨tx, htx⟩ : ∃ x, x = (whole ns).take 8 := ⟨_, rfl⟩
  obtain ⟨cp, hcp⟩ : ∃ x, x = cap mk true ((whole ns).take 8) := ⟨_, rfl⟩
  rw [← hcp] at dc hcl
  rw [← htx] at dt hcl hAtx htl
  refine aft2_mono (fun m' news' => (∃ t, m' (Str.ofString "whole") = some (.str (S (whole ns)) t)) ∧ (∃ t, m' (Str.ofString "other") = some (.str (S (other ns)) t)) ∧ (∃ t, m' (Str.ofString "due") = some (.int (due tx cp) t)) ∧ news' = [(s₁.heap.objs.size + 1 + 1 + 1, oc), (s₁.heap.objs.size + 1 + 1, ot), (s₁.heap.objs.size + 1, om)]) (by assumption) (by assumption) ?_ ?_
  · refine wpAny_Assign_Name ?_
    tb_rel
    refine Halt.out ?_
    refine LCt.ListComp_T (F₀ := by k_asm) (by with_unfolding_all rfl) (by decide) (by rfl) (by decide) (by rfl) ?_
    tb_rel
    refine Halt.out ?_
    refine LCt.CompSrcT.range (n := tx.length) rfl (by k_asm) (by k_asm) (by assumption) (small_one (by omega) (by omega) (by omega) (by omega)) (by rw [rangeSize_nat]; omega) (by rw [sizeLine_eq]; omega) ?_
    intro g
    refine kci_range (dueG tx cp) (fun k t I oI C oC D m₂ ys l h tk E' hlo hhi hI9 hC hx F' N' off ne mk => ?_) ?_ ?_
    · tb_rel
      · rename ((S _ != S _) = true) => hne
        exact Halt.out <| LCg.CompEnd.intro F' N' _ (fun _ h => h) off True.intro ⟨rfl, _, _, rfl, due_add hne⟩
      · rename ((S _ != S _) = false) => hne
        exact Halt.out <| LCg.CompEnd.intro F' N' _ (fun _ h => h) off True.intro ⟨rfl, due_same hne⟩
    · intro ys hys hysl D h tk F' N' off
      simp only [LCg.Off1, and_true] at off
      tb_rel
      rename Fr _ _ _ _ => FF
      rename News _ _ _ _ => NN
      exact Halt.out <| Aft2.intro FF NN (fun _ h => List.Mem.tail _ h) ⟨⟨_, ewh⟩, ⟨_, eot⟩, ⟨_, rfl⟩, rfl⟩
    · intro l k
      unfold dueG
      split <;> simp
  clear ewh eot
  rintro h7 tk7 m7 news7 F7 N7 ⟨⟨twh, ewh⟩, ⟨tot, eot⟩, ⟨tdu, edu⟩, rfl⟩
  have hcp' : cp = cap mk true tx := by rw [htx]; exact hcp
  have LS : ∀ k r, (LevOut tx cp k r ∨ LevOut cp tx k r) → (k = due tx cp ∨ k = due tx cp + 1 ∨ k = due tx cp - 1) → r = due tx cp := by
    rw [hcp']; exact fun k r h hk => lev_same hmk hAtx (by omega) h hk
  tb_rel
  · exfalso
    rename LevOut _ _ _ _ => hl
    have := LS _ _ (.inl hl) (.inl rfl)
    contradiction
  · exfalso
    rename LevOut _ _ _ _ => hl
    have := LS _ _ (.inr hl) (.inr (.inl rfl))
    contradiction
  · exfalso
    rename LevOut _ _ _ _ => hl
    have := LS _ _ (.inl hl) (.inr (.inr rfl))
    contradiction
  refine Halt.out ?_
  obtain ⟨tu, htu⟩ : ∃ x, x = cp.drop 1 ++ cp.take 1 := ⟨_, rfl⟩
  have htul : tu.length ≤ 16 := by rw [htu]; simp only [List.length_append, List.length_drop, List.length_take]; omega
  refine aft2_mono (fun m' news' => (∃ t, m' (Str.ofString "whole") = some (.str (S (whole ns)) t)) ∧ (∃ t, m' (Str.ofString "other") = some (.str (S (other ns)) t)) ∧ (∃ t, m' (Str.ofString "due") = some (.int (due tx cp) t)) ∧ (∃ t, m' (Str.ofString "turned") = some (.str (S tu) t)) ∧ news' = [(s₁.heap.objs.size + 1 + 1 + 1, oc), (s₁.heap.objs.size + 1 + 1, ot), (s₁.heap.objs.size + 1, om)]) (by assumption) (by assumption) ?_ ?_
  · refine wpAny_Assign_Name ?_
    tb_rel
    rename Fr _ _ _ _ => FF
    rename News _ _ _ _ => NN
    exact Halt.out <| Aft2.intro FF NN (fun _ h => h) ⟨⟨_, ewh⟩, ⟨_, eot⟩, ⟨_, edu⟩, ⟨_, by rw [htu]; rfl⟩, rfl⟩
  clear ewh eot edu
  rintro h8 tk8 m8 news8 F8 N8 ⟨⟨twh, ewh⟩, ⟨tot, eot⟩, ⟨tdu, edu⟩, ⟨ttu, etu⟩, rfl⟩
  have LT : ∀ k r, (LevOut cp tu k r ∨ LevOut tu cp k r) → (k = 4 ∨ k = 3) → r = 4 := by
    rw [htu]; exact fun k r h hk => lev_turned hmk hcp h hk
  tb_rel
  · exfalso
    rename LevOut _ _ _ _ => hl
    have := LT _ _ (.inl hl) (.inl rfl)
    contradiction
  · exfalso
    rename LevOut _ _ _ _ => hl
    have := LT _ _ (.inr hl) (.inr rfl)
    contradiction
  refine Halt.out ?_
  refine aft2_mono (fun m' news' => (∃ t, m' (Str.ofString "whole") = some (.str (S (whole ns)) t)) ∧ (∃ t, m' (Str.ofString "other") = some (.str (S (other ns)) t)) ∧ (∃ t, m' (Str.ofString "due") = some (.int (due tx cp) t)) ∧ ∃ D ys, m' (Str.ofString "spread") = some (.ref D) ∧ CarriedAll ys ((rangeKs 0 (tx.length + 1)).map fun k => PyData.str (S (spreadAt tx mk k.toNat))) ∧ news' = [(D, LCg.lst ys), (s₁.heap.objs.size + 1 + 1 + 1, oc), (s₁.heap.objs.size + 1 + 1, ot), (s₁.heap.objs.size + 1, om)]) (by assumption) (by assumption) ?_ ?_
  · refine LCg.Assign_ListComp_U (F₀ := by k_asm) (by rfl) (by with_unfolding_all rfl) (by with_unfolding_all rfl) (by decide) (by rfl) (by decide) (by rfl) (by rfl) (by rfl) ?_
    tb_rel
    refine Halt.out ?_
    refine LCg.CompSrc.range (n := tx.length + 1) rfl (by k_asm) (by k_asm) (by assumption) (small_one (by omega) (by omega) (by omega) (by omega)) (by rw [rangeSize_nat]; omega) (by rw [sizeLine_eq]; omega) ?_
    intro g
    have hml := hmk.len
    obtain ⟨hml0, hml1⟩ := hml
    refine kct_range (fun k => S (spreadAt tx mk k.toNat)) (fun k t I oI C oC D m₂ ys h tk E' hlo hhi hC hx F' N' off ne mk9 => ?_) ?_
    · tb_rel
      rename Fr _ _ _ _ => FF
      rename News _ _ _ _ => NN
      exact Halt.out <| LCg.CompEnd.intro FF NN _ (fun _ h => h) off True.intro ⟨rfl, _, rfl⟩
    · intro ys hys _ D h tk F' N' off
      exact Aft2.intro F' N' (fun _ h => h) ⟨⟨_, ewh⟩, ⟨_, eot⟩, ⟨_, edu⟩, D, ys, rfl, hys, rfl⟩
  clear ewh eot edu
  rintro h9 tk9 m9 news9 F9 N9 ⟨⟨twh, ewh⟩, ⟨tot, eot⟩, ⟨tdu, edu⟩, Ds, ys, esp, hys, rfl⟩
  have hysl : ys.length = tx.length + 1 := by rw [carried_len hys, rangeKs_length]
  have hml := hmk.len
  obtain ⟨hml0, hml1⟩ := hml
  have hspl : ∀ k, (spreadAt tx mk k).length ≤ 12 := by
    intro k
    simp only [spreadAt, List.length_append, List.length_take, List.length_drop]
    omega
  have hAsp : ∀ k, Al (spreadAt tx mk k) := fun k => al_app (al_app (al_take hAtx k) hmk.al) (al_drop hAtx k)
  tb_rel
  refine Halt.out ?_
  refine r_loop (fun _ m₁ => (∃ t, m₁ (Str.ofString "whole") = some (.str (S (whole ns)) t)) ∧ (∃ t, m₁ (Str.ofString "other") = some (.str (S (other ns)) t)) ∧ (∃ t, m₁ (Str.ofString "due") = some (.int (due tx cp) t)) ∧ m₁ (Str.ofString "spread") = some (.ref Ds)) rfl (by assumption) N9 (List.Mem.head _) rfl rfl ⟨⟨_, ewh⟩, ⟨_, eot⟩, ⟨_, edu⟩, esp⟩ ?_ ?_
  · rintro i v m₁ h tk own hv ⟨⟨twh, ewh⟩, ⟨tot, eot⟩, ⟨tdu, edu⟩, esp⟩ F₁ N₁
    obtain ⟨k, hk, t9, rfl⟩ := carried_get hys (by simpa using hv)
    have hs1 := hspl k.toNat
    tb_rel
    · exfalso
      rename LevOut _ _ _ _ => hl
      have := lev_spread hl
      contradiction
    · rename Fr _ _ _ _ => FF
      rename News _ _ _ _ => NN
      exact Halt.out <| TurnEnd.intro FF NN ⟨⟨_, ewh⟩, ⟨_, eot⟩, ⟨_, edu⟩, esp⟩
  clear ewh eot edu esp
  rintro m10 h10 tk10 ⟨⟨twh, ewh⟩, ⟨tot, eot⟩, ⟨tdu, edu⟩, esp⟩ F10 N10
  have LF : ∀ o r, Al o → LevOut tx (cap mk true o) (due tx cp - 1) r → due tx cp ≤ r := by
    rw [hcp']; exact fun o r ho h => lev_far hmk hAtx ho h
  have hol : (other ns).length ≤ 8 := by simp only [other, List.length_append, List.length_cons, List.length_nil, List.length_map, List.length_take]; omega
  tb_rel
  refine Halt.out ?_
  refine For_invV s₁.heap (by rfl) (by rfl) ?_
  tb_rel
  refine Halt.out ?_
  refine r_loop (fun _ m₁ => ∃ t, m₁ (Str.ofString "due") = some (.int (due tx cp) t)) rfl (by assumption) (by assumption) (List.Mem.head _) rfl rfl ⟨_, edu⟩ ?_ ?_
  · rintro i v m₁ h tk own hv ⟨tdu, edu⟩ F₁ N₁
    obtain ⟨x, t9, rfl, hx⟩ := last_items hys hv
    obtain ⟨one, rfl, hone, honel⟩ : ∃ one, x = S one ∧ Al one ∧ one.length ≤ 65 := by
      rcases hx with rfl | rfl | ⟨k, rfl⟩
      · exact ⟨_, rfl, al_whole ns, hwl⟩
      · exact ⟨_, rfl, al_other ns, by omega⟩
      · exact ⟨_, rfl, hAsp _, by have := hspl k.toNat; omega⟩
    have hconel : (cap mk true one).length ≤ 65 := by rw [cap_length hml0]; exact honel
    tb_rel
    refine Halt.out ?_
    refine wpAny_Assign_Name ?_
    tb_rel
    · exfalso
      rename LevOut _ _ _ _ => hl
      have := LF _ _ hone hl
      omega
    · rename Fr _ _ _ _ => FF
      rename News _ _ _ _ => NN
      exact Halt.out <| TurnEnd.intro FF NN ⟨_, edu⟩
  rintro m11 h11 tk11 ⟨tdu, edu⟩ F11 N11
  tb_rel
  dsimp only
  k_steps)
end Mine

theorem PySem.Challenge.cw_ny0069_01_holds : PySem.Challenge.rw_ny0069_01.Holds :=
  Mine.law_holds
