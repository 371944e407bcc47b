import PyProof.Rows.All
import Wide.All
import OpenK.AllK
import Wide.FinOn
import PySem.Challenge.RW_nb0185_01
section -- Top185
open PySem PySem.W PyProof.Rows
set_option Elab.async false
set_option maxRecDepth 100000
set_option maxHeartbeats 8000000
namespace Mine
open_top hd for PySem.Challenge.rw_nb0185_01
end Mine
end
section -- LStr
theorem Mine.rstLStr : True := by
  w_top off
  trivial
set_option Elab.async false
set_option maxRecDepth 100000
set_option maxHeartbeats 1000000
namespace Mine
open PySem PySem.W PyProof.Rows PySem.Calls PySem.Builtin PySem.Builtin.Str


theorem gives_index3 (x y : Str) (i : Int) (t u v : Tok) (k : Nat) (r : List Nat) (h : occurrences x y (fromIndex x.length i) x.length 1 = k :: r) :
    Gives («str.index» ⟨[.str x t, .str y u, .int i v], []⟩) (.int k) := by
  show Gives (match occurrences x y (fromIndex x.length i) (min x.length x.length) 1 with | k :: _ => retInt k | [] => (do rule "str.index.not-found"; raiseError "ValueError" "substring not found")) _
  rw [Nat.min_self, h]
  exact .of_eq rfl
theorem raises_index3 (x y : Str) (i : Int) (t u v : Tok) (h : occurrences x y (fromIndex x.length i) x.length 1 = []) :
    Meets («str.index» ⟨[.str x t, .str y u, .int i v], []⟩) (raisesNew "ValueError") := by
  intro prog w A R s hS
  show wpAny _ _ (match occurrences x y (fromIndex x.length i) (min x.length x.length) 1 with | i :: _ => retInt i | [] => _) _ _ s
  rw [Nat.min_self, h]
  first
    | exact wpAny_bind (wpAny_rule (by exact_raiseError plainExc_ValueError hS.1 hS.2))
    | exact wpAny_bind (wpAny_rule (wpAny_bind (by exact_raiseError plainExc_ValueError hS.1 hS.2)))
theorem gives_count4 (x y : Str) (i j : Int) (t u v v' : Tok) : Gives («str.count» ⟨[.str x t, .str y u, .int i v, .int j v'], []⟩) (.int (occurrences x y (fromIndex x.length i) (min (fromIndex x.length j) x.length) (x.length + 1)).length) := by
  show Gives (retInt (occurrences x y (fromIndex x.length i) (min (fromIndex x.length j) x.length) (x.length + 1)).length) _
  exact .of_eq rfl
noncomputable def rf (x y : Str) (lo hi : Nat) : Int := match lastOccurrence x y lo hi with | some k => (k : Int) | none => -1
theorem gives_rfind4 (x y : Str) (i j : Int) (t u v v' : Tok) : Gives («str.rfind» ⟨[.str x t, .str y u, .int i v, .int j v'], []⟩) (.int (rf x y (fromIndex x.length i) (min (fromIndex x.length j) x.length))) := by
  show Gives (match lastOccurrence x y (fromIndex x.length i) (min (fromIndex x.length j) x.length) with | some k => retInt k | none => (do rule "str.rfind.not-found"; retInt (-1))) _
  unfold rf
  cases lastOccurrence x y (fromIndex x.length i) (min (fromIndex x.length j) x.length) with
  | none => exact .rule (.of_eq rfl)
  | some k => exact .of_eq rfl
theorem gives_rindex4 (x y : Str) (i j : Int) (t u v v' : Tok) (k : Nat) (h : lastOccurrence x y (fromIndex x.length i) (min (fromIndex x.length j) x.length) = some k) :
    Gives («str.rindex» ⟨[.str x t, .str y u, .int i v, .int j v'], []⟩) (.int k) := by
  show Gives (match lastOccurrence x y (fromIndex x.length i) (min (fromIndex x.length j) x.length) with | some k => retInt k | none => (do rule "str.rindex.not-found"; raiseError "ValueError" "substring not found")) _
  rw [h]
  exact .of_eq rfl
section
variable {prog : Program} {w : World} {A : Around} {E : Value → Shared → Prop} {s : Shared} {x y : Str} {t u v v' : Tok} {i j : Int} {Q : Value → Shared → Prop}
theorem index3_yes {k : Nat} {r : List Nat} (h : occurrences x y (fromIndex x.length i) x.length 1 = k :: r) (hq : Q (.int k s.toks) { s with toks := s.toks + 1 }) :
    wpAny (model prog w) A (call (.builtin "str.index") [.str x t, .str y u, .int i v]) Q E s :=
  call_gives F.slot_str_index (typeIs_str _ _ _) F.entry_str_index (F.args_str_index_3 _ _ _) (gives_index3 x y i t u v k r h) hq
theorem index3_no (hA : A.handled = none) (h : occurrences x y (fromIndex x.length i) x.length 1 = []) (he : ∀ h' tk e, Heap.NewExc s.heap h' e "ValueError" → E (.ref e) { s with heap := h', toks := tk }) :
    wpAny (model prog w) A (call (.builtin "str.index") [.str x t, .str y u, .int i v]) Q E s :=
  call_meets F.slot_str_index (typeIs_str _ _ _) F.entry_str_index (F.args_str_index_3 _ _ _) (raises_index3 x y i t u v h) ⟨hA, he⟩
theorem count4 (hq : Q (.int (occurrences x y (fromIndex x.length i) (min (fromIndex x.length j) x.length) (x.length + 1)).length s.toks) { s with toks := s.toks + 1 }) :
    wpAny (model prog w) A (call (.builtin "str.count") [.str x t, .str y u, .int i v, .int j v']) Q E s :=
  call_gives F.slot_str_count (typeIs_str _ _ _) F.entry_str_count (F.args_str_count_4 _ _ _ _) (gives_count4 x y i j t u v v') hq
theorem rfind4 (hq : Q (.int (rf x y (fromIndex x.length i) (min (fromIndex x.length j) x.length)) s.toks) { s with toks := s.toks + 1 }) :
    wpAny (model prog w) A (call (.builtin "str.rfind") [.str x t, .str y u, .int i v, .int j v']) Q E s :=
  call_gives F.slot_str_rfind (typeIs_str _ _ _) F.entry_str_rfind (F.args_str_rfind_4 _ _ _ _) (gives_rfind4 x y i j t u v v') hq
theorem rindex4 {k : Nat} (h : lastOccurrence x y (fromIndex x.length i) (min (fromIndex x.length j) x.length) = some k) (hq : Q (.int k s.toks) { s with toks := s.toks + 1 }) :
    wpAny (model prog w) A (call (.builtin "str.rindex") [.str x t, .str y u, .int i v, .int j v']) Q E s :=
  call_gives F.slot_str_rindex (typeIs_str _ _ _) F.entry_str_rindex (F.args_str_rindex_4 _ _ _ _) (gives_rindex4 x y i j t u v v' k h) hq
end
end Mine
end
section -- LOp
theorem Mine.rstLOp : True := by
  w_top off
  trivial
set_option Elab.async false
set_option maxRecDepth 100000
set_option maxHeartbeats 1000000
namespace Mine
open PySem PySem.W PyProof.Rows PySem.Calls PySem.Builtin PySem.Builtin.Str

noncomputable def Stop (P : Prop) : Prop := P
theorem Stop.mk' {P : Prop} (h : Stop P) : P := h

theorem len_app (a b : Str) : (a ++ b).length = a.length + b.length := by
  show (a.cps ++ b.cps).size = _
  rw [Array.size_append]; rfl
theorem len_e : Str.empty.length = 0 := rfl
theorem lit1 : (Str.ofString " (at ").length = 5 := by decide +kernel
theorem lit2 : (Str.ofString "end of document").length = 15 := by decide +kernel
theorem lit3 : (Str.ofString ")").length = 1 := by decide +kernel
theorem lit4 : (Str.ofString "line ").length = 5 := by decide +kernel
theorem lit5 : (Str.ofString ", column ").length = 9 := by decide +kernel
theorem lit6 : (Str.ofString "Expected ").length = 9 := by decide +kernel
theorem lit7 : (Str.ofString " (at end of document)").length = 21 := by decide +kernel
theorem lit8 : (Str.ofString "Found invalid character ").length = 24 := by decide +kernel
theorem lit9 : (Str.ofString "\n").length = 1 := by decide +kernel
theorem lit10 : (Str.ofString "ab").length = 2 := by decide +kernel
theorem lit11 : (Str.ofString "|").length = 1 := by decide +kernel
theorem lit12 : (Str.ofString "barred").length = 6 := by decide +kernel
theorem lit13 : (Str.ofString "aab\n!").length = 5 := by decide +kernel
theorem lit14 : (Str.ofString "").length = 0 := by decide +kernel
theorem sl_eq : sizeLine = 16777216 := by rw [sizeLine_eq]

section
variable {M : Model} {prog : Program} {w : World} {A : Around} {E : Value → Shared → Prop} {s : Shared}
theorem count4o {x y : Str} {t u v v' : Tok} {i j : Int} {Q : Value → Shared → Prop} (hq : ∀ c : Nat, c = (occurrences x y (fromIndex x.length i) (min (fromIndex x.length j) x.length) (x.length + 1)).length → Q (.int c s.toks) { s with toks := s.toks + 1 }) :
    wpAny (model prog w) A (call (.builtin "str.count") [.str x t, .str y u, .int i v, .int j v']) Q E s := count4 (hq _ rfl)
theorem rfind4o {x y : Str} {t u v v' : Tok} {i j : Int} {Q : Value → Shared → Prop} (hq : ∀ c : Int, c = rf x y (fromIndex x.length i) (min (fromIndex x.length j) x.length) → Q (.int c s.toks) { s with toks := s.toks + 1 }) :
    wpAny (model prog w) A (call (.builtin "str.rfind") [.str x t, .str y u, .int i v, .int j v']) Q E s := rfind4 (hq _ rfl)
theorem jp_and {out y : Str} {rest : List (Sem Value)} {Q : Value → Shared → Prop} (h1 : (out ++ y).length ≤ sizeLine)
    (h2 : ∀ z : Str, z = out ++ y → z.length = out.length + y.length → wpAny M A (joinParts z rest) Q E s) :
    (out ++ y).length ≤ sizeLine ∧ wpAny M A (joinParts (out ++ y) rest) Q E s := ⟨h1, h2 _ rfl (len_app _ _)⟩
theorem fmt_int {a : Int} {t : Tok} {Q : Value → Shared → Prop} (h0 : 0 ≤ a) (h1 : a < 10 ^ 10)
    (h : ∀ d : Str, d = Str.ofString (toString a) → d.length ≤ 10 → Q (.str d (s.toks + 1)) { s with toks := s.toks + 1 + 1 }) : wpAny (model prog w) A (formatField (.int a t) Str.empty) Q E s :=
  formatField_int_small (by
    have : a.natAbs < 2 ^ 1920 := Nat.lt_of_lt_of_le (by omega : a.natAbs < 10 ^ 10) (by decide)
    by_cases hz : a.natAbs = 0
    · rw [hz]; decide
    · exact (Nat.log2_lt hz).mpr this) (h _ rfl (KT.len_num h0 h1))
end
end Mine
end
section -- LOcc
theorem Mine.rstLOcc : True := by
  w_top off
  trivial
set_option Elab.async false
set_option maxRecDepth 100000
set_option maxHeartbeats 1000000
namespace Mine
open PySem PySem.W PyProof.Rows PySem.Calls PySem.Builtin PySem.Builtin.Str PySem.StrLaws

theorem occ_hi (x y : Str) (lo hi limit : Nat) (hl : 1 ≤ limit) :
    (occurrences x y lo hi limit = [] ∧ ∀ i, lo ≤ i → ¬ At x y hi i) ∨
    ∃ i r, occurrences x y lo hi limit = i :: r ∧ lo ≤ i ∧ At x y hi i ∧ ∀ k, lo ≤ k → k < i → ¬ At x y hi k := by
  rw [occ_eq]
  rcases occ_first x y hi limit hl (List.range' lo (hi + 1 - lo)) lo (fun i hi => by have := List.mem_range'_1.mp hi; omega) with ⟨h0, hn⟩ | ⟨pre, a, post, e, h0, ha, hn⟩
  · refine .inl ⟨by rw [h0], fun i hlo hi => ?_⟩
    exact hn i (by have := hi.1; rw [List.mem_range'_1]; omega) hi
  · have hs := range'_split_from e
    generalize hArr : (forIn (List.range' lo (hi + 1 - lo)) ((#[] : Array Nat), lo) (occBody x y hi limit)).run.fst = arr at h0
    have h1 : arr.toList[0]? = some a := by simpa using h0
    cases hL : arr.toList with
    | nil => rw [hL] at h1; cases h1
    | cons b t =>
      rw [hL] at h1
      simp at h1
      subst h1
      exact .inr ⟨b, t, rfl, hs.1, ha, fun k hk0 hk => hn k (hs.2 k hk0 hk)⟩
theorem last_hi (x y : Str) (lo hi : Nat) : (lastOccurrence x y lo hi = none ∧ ∀ i, lo ≤ i → ¬ At x y hi i) ∨
    ∃ i, lastOccurrence x y lo hi = some i ∧ At x y hi i ∧ ∀ k, lo ≤ k → i < k → ¬ At x y hi k := by
  rw [last_eq]
  have key := last_run x y hi (List.range' lo (hi + 1 - lo)) [] none (fun _ h => nomatch h) (fun _ h => nomatch h) (by simpa using List.pairwise_lt_range' (s := lo) (n := hi + 1 - lo))
  have mem : ∀ i, lo ≤ i → At x y hi i → i ∈ [] ++ List.range' lo (hi + 1 - lo) := fun i hlo hi => by
    have := hi.1
    rw [List.nil_append, List.mem_range'_1]; omega
  cases hr : (forIn (List.range' lo (hi + 1 - lo)) none (lastBody x y hi)).run with
  | none => rw [hr] at key; exact .inl ⟨rfl, fun i hlo hi => key i (mem i hlo hi) hi⟩
  | some a => rw [hr] at key; exact .inr ⟨a, rfl, key.1, fun k hlo hk hA => key.2 k (mem k hlo hA) hk hA⟩
/-- some are counted: then there is a last one -/
theorem last_of_count {x y : Str} {lo hi limit : Nat} (hl : 1 ≤ limit) (h : (occurrences x y lo hi limit).length ≠ 0) :
    ∃ k, lastOccurrence x y lo hi = some k ∧ k + y.length ≤ hi := by
  rcases occ_hi x y lo hi limit hl with ⟨h0, _⟩ | ⟨i, r, _, hlo, ha, _⟩
  · rw [h0] at h; exact absurd rfl h
  · rcases last_hi x y lo hi with ⟨_, hn⟩ | ⟨k, hk, hA, _⟩
    · exact absurd ha (hn i hlo)
    · exact ⟨k, hk, hA.1⟩
theorem count_zero {x y : Str} {lo hi limit : Nat} (hl : 1 ≤ limit) (h : (occurrences x y lo hi limit).length = 0) : lastOccurrence x y lo hi = none := by
  rcases occ_hi x y lo hi limit hl with ⟨_, hn⟩ | ⟨i, r, h0, _⟩
  · rcases last_hi x y lo hi with ⟨h0, _⟩ | ⟨k, hk, hA, _⟩
    · exact h0
    · rcases Nat.lt_or_ge k lo with hlt | hge
      · have key := last_run x y hi (List.range' lo (hi + 1 - lo)) [] none (fun _ h => nomatch h) (fun _ h => nomatch h) (by simpa using List.pairwise_lt_range' (s := lo) (n := hi + 1 - lo))
        rw [last_eq] at hk ⊢
        rw [hk] at key
        exact absurd hA (by
          intro _
          -- k was found among the range, so lo ≤ k
          have : ∀ (l : List Nat) (st : Option Nat), (∀ a, st = some a → lo ≤ a) → (∀ j ∈ l, lo ≤ j) → ∀ a, (forIn l st (lastBody x y hi)).run = some a → lo ≤ a := by
            intro l
            induction l with
            | nil => intro st h1 _ a h2; exact h1 a (by simpa using h2)
            | cons c l ih =>
              intro st h1 h2 a h3
              rw [List.forIn_cons] at h3
              unfold lastBody at h3
              by_cases hc : c + y.length ≤ hi ∧ subAt x y c = true
              · rw [if_pos hc] at h3
                exact ih (some c) (fun b hb => by cases hb; exact h2 _ (List.mem_cons_self ..)) (fun j hj => h2 j (List.mem_cons_of_mem _ hj)) a h3
              · rw [if_neg hc] at h3
                exact ih st h1 (fun j hj => h2 j (List.mem_cons_of_mem _ hj)) a h3
          have := this _ none (fun _ h => nomatch h) (fun j hj => (List.mem_range'_1.mp hj).1) k hk
          omega)
      · exact absurd hA (hn k hge)
  · rw [h0] at h; cases h
section
variable {prog : Program} {w : World} {A : Around} {E : Value → Shared → Prop} {s : Shared}
theorem count4b {x y : Str} {t u v v' : Tok} {i j : Int} {Q : Value → Shared → Prop} (hq : ∀ c : Nat, c = (occurrences x y (fromIndex x.length i) (min (fromIndex x.length j) x.length) (x.length + 1)).length → c ≤ x.length + 1 → Q (.int c s.toks) { s with toks := s.toks + 1 }) :
    wpAny (model prog w) A (call (.builtin "str.count") [.str x t, .str y u, .int i v, .int j v']) Q E s := count4 (hq _ rfl (occ_length_le _ _ _ _ _))
theorem rindex4o {x y : Str} {t u v v' : Tok} {i j : Int} {Q : Value → Shared → Prop} {c : Nat} (hc : c = (occurrences x y (fromIndex x.length i) (min (fromIndex x.length j) x.length) (x.length + 1)).length)
    (hne : (c : Int) + 1 ≠ 1) (hj : 0 ≤ j) (hq : ∀ k : Nat, lastOccurrence x y (fromIndex x.length i) (min (fromIndex x.length j) x.length) = some k → (k : Int) + y.length ≤ j → Q (.int k s.toks) { s with toks := s.toks + 1 }) :
    wpAny (model prog w) A (call (.builtin "str.rindex") [.str x t, .str y u, .int i v, .int j v']) Q E s := by
  obtain ⟨k, hk, hb⟩ := last_of_count (x := x) (y := y) (limit := x.length + 1) (Nat.le_add_left 1 _) (fun h => hne (by rw [hc, h]; rfl) : (occurrences x y (fromIndex x.length i) (min (fromIndex x.length j) x.length) (x.length + 1)).length ≠ 0)
  refine rindex4 hk (hq k hk ?_)
  obtain ⟨n, rfl⟩ := Int.eq_ofNat_of_zero_le hj
  exact Int.ofNat_le.mpr (Nat.le_trans hb (Nat.min_le_left _ _))
end
end Mine
end
section -- Cx
theorem Mine.rstCx : True := by
  w_top off
  trivial
open PySem PySem.W PyProof.Rows PySem.Calls
set_option Elab.async false
set_option maxRecDepth 100000
set_option maxHeartbeats 8000000
namespace Mine
noncomputable abbrev Kf (w : World) : Frag := Mine.hd.heap_39 w.params
noncomputable abbrev prog : Program := Challenge.rw_nb0185_01.row.prog
noncomputable abbrev looseX : List Str :=
  looseW Mine.hd.view_39 [Str.ofString "bisect_right", Str.ofString "bisect_left", Str.ofString "PatternError"] ++ List.map (fun x => x.name) (recsOf Mine.hd.view_39) ++
      List.map (fun x => x.fst) (litsOf Mine.hd.view_39) ++
    List.map (fun x => x.name) (clssOf Mine.hd.view_39 (looseW Mine.hd.view_39 [Str.ofString "bisect_right", Str.ofString "bisect_left", Str.ofString "PatternError"]))
noncomputable abbrev myTop (hd : Option Value) (dp un : Nat) (gd : Option (List Code)) (cn : Str) (cs : Scope) (L a : Addr) (ccd : Value) (cl : List (Str × Addr)) (outer : List Env) : Around :=
  { handled := hd, depth := dp, frames := some (envX cn cs L a ccd cl :: outer), guards := gd, units := un }
open PySem.Builtin.Str in
noncomputable def coordS (src : Str) (pos : Int) : Str :=
  if pos ≥ (src.length : Int) then Str.ofString "end of document" else
    let c := (occurrences src (Str.ofString "\n") (fromIndex src.length 0) (min (fromIndex src.length pos) src.length) (src.length + 1)).length
    let col : Int := if c = 0 then pos + 1 else pos - ((lastOccurrence src (Str.ofString "\n") (fromIndex src.length 0) (min (fromIndex src.length pos) src.length)).getD 0 : Nat)
    Str.empty ++ Str.ofString "line " ++ Str.ofString (toString ((c : Int) + 1)) ++ Str.ofString ", column " ++ Str.ofString (toString col)
noncomputable def suffMsg (src : Str) (pos : Int) (msg : Str) : Str := Str.empty ++ msg ++ Str.ofString " (at " ++ coordS src pos ++ Str.ofString ")"
noncomputable def excO (C t : Addr) : Obj := { cls := .ref C, data := .fields #[.ref t, .none, .none, .none, .bool false, .none] }
noncomputable def tupO (v : Value) : Obj := { cls := .type "tuple", data := .seq [v].toArray }
/-- what is known of the table of suffixed_err's own codes -/
noncomputable def TabI (ps : Array Value) (news : List (Addr × Obj)) : Prop :=
  ps = #[] ∨ ∃ c oc vs t, ps = #[rawInt 18, rawInt 4, .ref c] ∧ (c, oc) ∈ news ∧ oc.data = .fields vs ∧ vs[1]? = some (.str (Str.ofString "suffixed_err.<locals>.coord_repr") t)
end Mine
end
section -- LExc
theorem Mine.rstLExc : True := by
  w_top off
  trivial
open PySem PySem.W PyProof.Rows PySem.Calls PySem.Builtin.Str
set_option Elab.async false
set_option maxRecDepth 100000
set_option maxHeartbeats 400000
namespace Mine
theorem toml_ns (P : Params) : nsIn (Mine.hd.heap_39 P) mainGlobals (Str.ofString "TOMLDecodeError") = some (some (.ref 24)) := by kernel_rfl
theorem toml_exc (P : Params) : excIn (Mine.hd.heap_39 P) 24 [.type "ValueError", .type "Exception", .type "BaseException", .type "object"] "ValueError.__new__" = true := by kernel_rfl
section
variable {prog : Program} {w : World} {A : Around} {E : Value → Shared → Prop} {s : Shared} {mean : ExcName → Option Value} {mg mb : Str → Option Value} {h₀ : Heap} {L : Addr} {m : Str → Option Value} {Q : Value → Shared → Prop} {news : List (Addr × Obj)} {loose : List Str} {p : Program}
theorem mk_toml {v : Value} (F : Fr h₀ L s.heap m) (X : (Mine.hd.heap_39 w.params).In h₀) (T : Top p loose mean mg mb h₀) (N : News h₀ L s.heap news)
    (h : ∀ e t h', Fr h₀ L h' m → News h₀ L h' ((e, excO 24 t) :: (t, tupO v) :: news) → (∀ q ∈ news, q.1 ≠ e ∧ q.1 ≠ t) → e ≠ t → Q (.ref e) { s with heap := h' }) :
    wpAny (model prog w) A (call (.ref 24) [v]) Q E s := by
  obtain ⟨bm, N', nm, q, bs, hdct, sn, sub, ab, col, dd, k0, k1, k2, k3, k5, mN, hC, hN, hni, TL⟩ := ((own_of_in X (topRead_of T) (toml_ns w.params) (toml_exc w.params)).keeps F.keep).obj
  obtain ⟨hp, g, d, tk, os⟩ := s
  refine wpAny_call_exc_subT PySem.F.excBase_ValueError TL hC hN hni (fun h' e hm => ?_) (by show 1 ≤ sizeLine; rw [sl_eq]; omega)
  obtain ⟨t, he, hnt, ht⟩ := hm.there
  have nL : ∀ b, hp.get? b = none → b ≠ L := fun b hb q => by
    obtain ⟨oL, _, _, hL, _⟩ := F.ns
    rw [q] at hb
    have : hp.get? L = some oL := hL
    rw [hb] at this; cases this
  have n0 : ∀ b, hp.get? b = none → h₀.get? b = none := fun b hb => by
    cases q : h₀.get? b with
    | none => rfl
    | some o => have := F.keep b o q; rw [show (Shared.heap ⟨hp, g, d, tk, os⟩) = hp from rfl, hb] at this; cases this
  refine h e t h' (F.kept hm.keeps) (fun p hp' => ?_) (fun q hq => ⟨fun z => ?_, fun z => ?_⟩) ?_
  · rcases List.mem_cons.mp hp' with rfl | hp'
    · exact ⟨he, nL _ hm.new, n0 _ hm.new⟩
    · rcases List.mem_cons.mp hp' with rfl | hp'
      · exact ⟨ht, nL _ hnt, n0 _ hnt⟩
      · exact ⟨hm.keeps _ _ (N p hp').1, (N p hp').2⟩
  · have := (N q hq).1
    rw [z, show (Shared.heap ⟨hp, g, d, tk, os⟩) = hp from rfl, hm.new] at this; cases this
  · have := (N q hq).1
    rw [z, show (Shared.heap ⟨hp, g, d, tk, os⟩) = hp from rfl, hnt] at this; cases this
  · intro z
    rw [z, ht] at he
    cases he
end
end Mine
end
section -- LSet
theorem Mine.rstLSet : True := by
  w_top off
  trivial
set_option Elab.async false
set_option maxRecDepth 100000
set_option maxHeartbeats 2000000
namespace Mine
open PySem PySem.W PyProof.Rows PySem.Calls PySem.Builtin
theorem slot_fs_contains : Slot "frozenset" "__contains__" "frozenset.__contains__" :=
  .of (owner := "frozenset") (n := "__contains__") (by rw [typeLookup_type, builtinLookup_eq_fast]; kernel_rfl) (by decide +kernel) (by decide +kernel) (by decide +kernel)
    (by first | exact .inl (by decide +kernel) | exact .inr (by decide +kernel)) (by rw [isSubtype_type]; kernel_rfl)
theorem slot_fs_isdisjoint : Slot "frozenset" "isdisjoint" "frozenset.isdisjoint" :=
  .of (owner := "frozenset") (n := "isdisjoint") (by rw [typeLookup_type, builtinLookup_eq_fast]; kernel_rfl) (by decide +kernel) (by decide +kernel) (by decide +kernel)
    (by first | exact .inl (by decide +kernel) | exact .inr (by decide +kernel)) (by rw [isSubtype_type]; kernel_rfl)
theorem type_fs_isdisjoint : typeOf (.builtin "frozenset.isdisjoint") = pure (.type "method_descriptor") := by show builtinType _ = _; rw [builtinType_eq_fast]; kernel_rfl
theorem entry_fs_contains : entryFor table "frozenset.__contains__" = some Builtin.«frozenset.__contains__» := entryFor_of_tree (by kernel_rfl)
theorem entry_fs_isdisjoint : entryFor table "frozenset.isdisjoint" = some Builtin.«frozenset.isdisjoint» := entryFor_of_tree (by kernel_rfl)
theorem entry_fs_loop : entryFor table "frozenset.isdisjoint.loop" = some Builtin.«frozenset.isdisjoint.loop» := entryFor_of_tree (by kernel_rfl)
theorem entry_set_loop : entryFor table "set.update.loop" = some Builtin.«set.update.loop» := entryFor_of_tree (by kernel_rfl)
theorem args_fs_contains (a b : Value) : argsOk "frozenset.__contains__" ⟨[a, b], []⟩ := by unfold argsOk; kernel_rfl
theorem args_fs_isdisjoint (a b : Value) : argsOk "frozenset.isdisjoint" ⟨[a, b], []⟩ := by unfold argsOk; kernel_rfl

/-- a frozenset of texts: its members by S -/
noncomputable def FsO (prog : Program) (w : World) (o : Obj) (S : Str → Bool) (n : Nat) : Prop :=
  ∃ es ep t, o = { cls := .type "frozenset", dict := none, data := .set es ep t } ∧ ElemsOf (strKind prog w) es.toList ∧ (∀ k, S k = true ↔ ∃ e ∈ es.toList, (strKind prog w).is k e.2 = true) ∧ es.size = n ∧ t.fits es.size = true
section
variable {prog : Program} {w : World} {A : Around} {E : Value → Shared → Prop} {s : Shared} {a : Addr} {o : Obj} {S : Str → Bool} {n : Nat} {x : Str} {t : Tok}
theorem isStr_self (x : Str) (t : Tok) : (strKind prog w).is x (.str x t) = true := by
  show Value.isStrOf x (.str x t) = true
  simp [Value.isStrOf]
theorem fs_find {Q : Option Nat → Shared → Prop} (ho : s.heap.get? a = some o) (hf : FsO prog w o S n) (hn : n < 64)
    (h : ∀ r : Option Nat, r.isSome = S x → Q r s) : wpAny (model prog w) A (setFind a (.str x t) ((strKind prog w).hash x)) Q E s := by
  obtain ⟨es, ep, tb, rfl, hel, hmem, hsz, hfit⟩ := hf
  have hb : es.size < scanBound := by show es.size < 4096; omega
  unfold setFind setFindIn
  refine wpAny_bind (wpAny_setState_of ho rfl hfit ?_)
  dsimp only
  rw [byScan_of (knd := strKind prog w) (x := .str x t) rfl hb hel]
  simp only [↓reduceIte]
  refine wpAny_bind (wpAny_rule ?_)
  refine wpAny_bind (wpAny_setScan_of (isStr_self x t) ho rfl hfit hel ?_)
  have hk := hmem x
  cases hr : List.findIdx? (fun e => (strKind prog w).is x e.2) es.toList with
  | none =>
    dsimp only
    refine wpAny_pure (h none ?_)
    rw [Option.isSome_none, eq_comm, ← Bool.not_eq_true, hk]
    rintro ⟨e, he, hpe⟩
    have := List.findIdx?_eq_none_iff.mp hr e he
    rw [hpe] at this; exact Bool.noConfusion this
  | some j =>
    dsimp only
    refine wpAny_pure (h (some (0 + j)) ?_)
    rw [Option.isSome_some, eq_comm, hk]
    obtain ⟨hj, hpj, _⟩ := List.findIdx?_eq_some_iff_getElem.mp hr
    exact ⟨es.toList[j], List.getElem_mem hj, hpj⟩
theorem fs_has {Q : Bool → Shared → Prop} (ho : s.heap.get? a = some o) (hf : FsO prog w o S n) (hn : n < 64) (h : Q (S x) { s with toks := s.toks + 1 }) :
    wpAny (model prog w) A (setContains a (.str x t)) Q E s := by
  unfold setContains
  refine wpAny_holding ?_
  refine wpAny_bind ((strKind prog w).pyHash (isStr_self x t) ?_)
  exact wpAny_bind (fs_find (s := { s with toks := s.toks + 1 }) ho hf hn fun r hr => wpAny_pure (by rw [hr]; exact h))
theorem fs_type (ho : s.heap.get? a = some o) (hf : FsO prog w o S n) : s.TypeIs (.ref a) "frozenset" := by
  obtain ⟨es, ep, tb, rfl, _⟩ := hf
  exact ⟨_, ho, rfl⟩
theorem fs_in {Q : Value → Shared → Prop} (ho : s.heap.get? a = some o) (hf : FsO prog w o S n) (hn : n < 64)
    (h : Q (.bool (S x)) { s with toks := s.toks + 1 }) : wpAny (model prog w) A (compareOp .In (.str x t) (.ref a)) Q E s := by
  show wpAny _ _ (do return .bool (← contains (.ref a) (.str x t))) Q E s
  refine wpAny_bind ?_
  unfold contains
  try with_reducible refine wpAny_holding ?_
  refine wpAny_bind (wpAny_specialOf (fs_type ho hf) slot_fs_contains.lookup ?_)
  show wpAny _ _ (if (some (Value.builtin "frozenset.__contains__") == some Value.none) = true then _ else _) _ E s
  rw [if_neg (by rw [beq_builtin_none]; exact Bool.false_ne_true)]
  refine wpAny_bind (wpAny_callSpecialUnlessNone?_slot (name := Str.ofString "__contains__") (fs_type ho hf) slot_fs_contains
    (wpAny_call_entry slot_fs_contains (fs_type ho hf) entry_fs_contains ?_ (args_fs_contains _ _)))
  unfold Builtin.«frozenset.__contains__» Builtin.Frozenset.oneOther
  simp only [List.isEmpty_nil, bind_assoc]
  unfold Builtin.Frozenset.addrOf Builtin.Frozenset.withSetAsKey
  refine wpAny_bind (wpAny_pure ?_)
  try dsimp only
  refine wpAny_bind (wpAny_pure ?_)
  try dsimp only
  refine wpAny_bind (wpAny_tryCatch (fs_has ho hf hn ?_))
  show wpAny _ _ (ret (Value.bool (S x))) _ _ _
  exact wpAny_pure ⟨_, rfl, wpAny_truthy_bool (wpAny_pure h)⟩
theorem fs_notin {Q : Value → Shared → Prop} (ho : s.heap.get? a = some o) (hf : FsO prog w o S n) (hn : n < 64)
    (h : Q (.bool (!S x)) { s with toks := s.toks + 1 }) : wpAny (model prog w) A (compareOp .NotIn (.str x t) (.ref a)) Q E s := by
  show wpAny _ _ (do return .bool (!(← contains (.ref a) (.str x t)))) Q E s
  refine wpAny_bind ?_
  unfold contains
  try with_reducible refine wpAny_holding ?_
  refine wpAny_bind (wpAny_specialOf (fs_type ho hf) slot_fs_contains.lookup ?_)
  show wpAny _ _ (if (some (Value.builtin "frozenset.__contains__") == some Value.none) = true then _ else _) _ E s
  rw [if_neg (by rw [beq_builtin_none]; exact Bool.false_ne_true)]
  refine wpAny_bind (wpAny_callSpecialUnlessNone?_slot (name := Str.ofString "__contains__") (fs_type ho hf) slot_fs_contains
    (wpAny_call_entry slot_fs_contains (fs_type ho hf) entry_fs_contains ?_ (args_fs_contains _ _)))
  unfold Builtin.«frozenset.__contains__» Builtin.Frozenset.oneOther
  simp only [List.isEmpty_nil, bind_assoc]
  unfold Builtin.Frozenset.addrOf Builtin.Frozenset.withSetAsKey
  refine wpAny_bind (wpAny_pure ?_)
  try dsimp only
  refine wpAny_bind (wpAny_pure ?_)
  try dsimp only
  refine wpAny_bind (wpAny_tryCatch (fs_has ho hf hn ?_))
  show wpAny _ _ (ret (Value.bool (S x))) _ _ _
  exact wpAny_pure ⟨_, rfl, wpAny_truthy_bool (wpAny_pure h)⟩
theorem plain_fs : PlainAttrs "frozenset" :=
  ⟨⟨"object.__getattribute__", by rw [typeLookup_type, builtinLookup_eq_fast]; kernel_rfl, by decide +kernel⟩, by rw [typeLookup_type, builtinLookup_eq_fast]; kernel_rfl⟩
theorem fs_method {pl : Sem Bool} {Q : Value × List Value → Shared → Prop} (ho : s.heap.get? a = some o) (hf : FsO prog w o S n) (h : Q (.builtin "frozenset.isdisjoint", [.ref a]) s) :
    wpAny (model prog w) A (getMethod (.ref a) "isdisjoint" pl) Q E s := by
  refine getMethod_builtin (fs_type ho hf) plain_fs slot_fs_isdisjoint type_fs_isdisjoint (fun b e => ?_) h
  injection e with e
  subst e
  obtain ⟨es, ep, tb, rfl, _⟩ := hf
  exact ⟨_, ho, rfl⟩

theorem plain_loop : plainId "frozenset.isdisjoint.loop" = true := by decide +kernel
theorem plain_uloop : plainId "set.update.loop" = true := by decide +kernel
/-- the loop of isdisjoint: from sign i on -/
theorem fs_loop {y : Str} {I : Addr} {St : Nat → Heap → Prop} {R : Result → Shared → Prop} (W : Walks prog w A.in1 I [I] [I] y.cps.size (SignAt y) St) (hf : FsO prog w o S n) (hn : n < 64) (haI : a ≠ I) :
    ∀ (k i : Nat) (s : Shared), i + k = y.cps.size → St i s.heap → s.heap.get? a = some o → (∀ j c, j < i → y.cps[j]? = some c → S ⟨#[c]⟩ = false) →
    (∀ h' tk b, (∀ b o, b ≠ I → s.heap.get? b = some o → h'.get? b = some o) → b = (y.cps.toList.all fun c => !S ⟨#[c]⟩) → R (.ok (.ret (.bool b))) { s with heap := h', toks := tk }) →
    codeAny (model prog w) A (.builtin "frozenset.isdisjoint.loop" ⟨[.ref a, .ref I], []⟩) R s := by
  intro k
  induction k with
  | zero =>
    intro i s hi hst ho hbef h
    refine codeAny_builtin entry_fs_loop ?_
    rw [Around.under_plainId plain_loop _]
    unfold Builtin.«frozenset.isdisjoint.loop»
    dsimp only
    refine wpAny_bind (W.done s _ _ ((show i = y.cps.size by omega) ▸ hst) fun h' tk hk => ?_)
    refine wpAny_pure (h h' tk true (fun b o hb e => hk b o (by simp [hb]) e) ?_)
    symm
    rw [List.all_eq_true]
    intro c hc
    obtain ⟨j, hj, e⟩ := List.mem_iff_getElem.mp hc
    rw [Array.length_toList] at hj
    have := hbef j c (by omega) (by rw [← e]; simp [hj])
    simp [this]
  | succ k ih =>
    intro i s hi hst ho hbef h
    refine codeAny_builtin entry_fs_loop ?_
    rw [Around.under_plainId plain_loop _]
    unfold Builtin.«frozenset.isdisjoint.loop»
    dsimp only
    refine wpAny_bind (W.item i s _ _ (by omega) hst fun v h' tk hP hst' hk => ?_)
    obtain ⟨c, u, hc, rfl⟩ := hP
    dsimp only
    have ho' : h'.get? a = some o := hk a o (by simp [haI]) ho
    refine wpAny_bind (wpAny_holding (fs_has (s := { s with heap := h', toks := tk }) ho' hf hn ?_))
    cases hS : S ⟨#[c]⟩ with
    | true =>
      simp only [if_true]
      refine wpAny_pure (h h' (tk + 1) false (fun b o hb e => hk b o (by simp [hb]) e) ?_)
      symm
      rw [← Bool.not_eq_true, List.all_eq_true]
      intro hall
      have := hall c (by rw [Array.mem_toList_iff]; exact Array.mem_of_getElem? hc)
      rw [hS] at this
      cases this
    | false =>
      simp only [Bool.false_eq_true, if_false]
      refine wpAny_pure ⟨plainId_quiet plain_loop _, ?_⟩
      refine ih (i + 1) _ (by omega) hst' ho' (fun j d hj hd => ?_) fun h'' tk' b hk' hb => ?_
      · rcases Nat.lt_or_ge j i with hlt | hge
        · exact hbef j d hlt hd
        · have : j = i := by omega
          subst this
          rw [hc] at hd
          cases hd
          exact hS
      · exact h h'' tk' b (fun b o hb' e => hk' b o hb' (hk b o (by simp [hb']) e)) hb
theorem fs_disjoint {y : Str} {t : Tok} {Q : Value → Shared → Prop} (hh : A.handled = none) (ho : s.heap.get? a = some o) (hf : FsO prog w o S n) (hn : n < 64)
    (h : ∀ h' tk b, (∀ b o, s.heap.get? b = some o → h'.get? b = some o) → b = (y.cps.toList.all fun c => !S ⟨#[c]⟩) → Q (.bool b) { s with heap := h', toks := tk }) :
    wpAny (model prog w) A (call (.builtin "frozenset.isdisjoint") [.ref a, .str y t]) Q E s := by
  refine wpAny_call (codeAny_call_builtin slot_fs_isdisjoint.plain entry_fs_isdisjoint (slot_fs_isdisjoint.check _ _ _ _ _ _ _ _ (fs_type ho hf) (args_fs_isdisjoint _ _) ?_))
  unfold Builtin.«frozenset.isdisjoint» Builtin.Frozenset.oneOther Builtin.Frozenset.addrOf
  simp only [List.isEmpty_nil, bind_assoc]
  refine wpAny_bind (wpAny_pure ?_)
  refine wpAny_bind (wpAny_pure ?_)
  dsimp only
  have e1 : (Value.str y t == Value.ref a) = false := by
    rw [beq_eq_false_iff_ne]; exact fun h => by cases h
  rw [if_neg (by rw [e1]; exact Bool.false_ne_true)]
  refine wpAny_bind (wpAny_typeOf (T := "str") (v := .str y t) rfl ?_)
  have h2 : (Value.type "str" == Value.type "set") = false := by decide
  have h3 : (Value.type "str" == Value.type "frozenset") = false := by decide
  simp only [h2, h3, Bool.or_false, Bool.false_eq_true, if_false]
  refine wpAny_bind (wpAny_pyIter_str fun ob St W hst => ?_)
  have hlt := Heap.lt_size ho
  refine wpAny_pure ⟨plainId_quiet plain_loop _, fs_loop (W A.in1 hh) hf hn (Nat.ne_of_lt hlt) y.cps.size 0 _ (by omega) hst (Heap.get?_push_of_some _ ho) (fun j c hj _ => absurd hj (Nat.not_lt_zero _)) fun h' tk b hk hb => ?_⟩
  exact h h' tk b (fun b o e => hk b o (Nat.ne_of_lt (Heap.lt_size e)) (Heap.get?_push_of_some _ e)) hb
end
end Mine
end
section -- LTry
theorem Mine.rstLTry : True := by
  w_top off
  trivial
open PySem PySem.W PyProof.Rows PySem.Calls PySem.Builtin.Str
set_option Elab.async false
set_option maxRecDepth 100000
set_option maxHeartbeats 1000000
namespace Mine
section
variable {prog : Program} {w : World} {A₀ A : Around} {s : Shared} {base h₀ : Heap} {L : Addr} {m : Str → Option Value} {env : Env} {news : List (Addr × Obj)} {K : Frag} {p : Program} {loose : List Str} {mean : ExcName → Option Value} {mg mb : Str → Option Value}
    {R : Result → Shared → Prop} {name qual : Str} {params : Arguments} {body : List Stmt} {scope : Scope} {dV kV doc pm cdv ct oc : Value} {an od : Option Addr} {osl : Array (Option Value)} {f : Addr} {args : Args} {binds : List (Str × Value)}
/-- a call of a def that catches, out of a frame at the bottom (of any kind) -/
theorem code_bottom (B : Below A₀ base [] h₀) (F : Fr h₀ L s.heap m) (X₀ : K.In h₀) (N : News h₀ L s.heap news) (T : Top p loose mean mg mb h₀) (hA : A.frames = some [env]) (hf : env.frame = some L) (hke : env.scope.kind = .function)
    (ho : K.lookup f = some ⟨oc, od, .func (fnOf name qual params body scope dV kV doc pm an cdv ct), osl⟩) (hcd : codeIn K cdv qual = true) (hroom : A.depth < recursionLimit)
    (hbind : BindsTo s (fnOf name qual params body scope dV kV doc pm an cdv ct) args binds) (hloc : ∀ y ∈ binds, scope.names.lookup y.1 = some .local)
    (h : ∀ g L' h₁, Fr h₀ L g m → Fr g L' h₁ (fun y => binds.reverse.lookup y) → News g L' h₁ news → Below A base [env] g → K.In g → Top p loose mean mg mb g → KtsDicts ([env].filterMap (·.frame)) g →
      wpAny (model prog w) (A.deeper (envOf qual scope L' f cdv)) (execs body (envOf qual scope L' f cdv))
        (fun fl s' => LeaveS0 ([env].filterMap (·.frame)) h₀ L m g R (match fl with | .ret v => v | _ => .none) s')
        (fun e s' => wpAny (model prog w) (A.deeper (envOf qual scope L' f cdv)) (leaving (envOf qual scope L' f cdv) e) (fun _ s'' => R (.error e) s'') (fun e' s'' => R (.error e') s'') s')
        { s with heap := h₁, toks := s.toks + binds.length })
    (hco : scope.isCoroutine = false) (hgen : scope.isGenerator = false) (hk : scope.kind = .function)
    (hcell : ∀ x ∈ scope.names, x.2 ≠ .cell) : codeAny (model prog w) A (.call (.ref f) args) R s := by
  have X := X₀.keeps F.keep
  obtain ⟨FG, BG, st, _⟩ := groundX (R := R) B F N hA hf hke
  refine codeAny_call_def (fd := fnOf name qual params body scope dV kV doc pm an cdv ct) (body := body) (binds := binds) hroom (X _ _ ho) rfl (T.nolimit.keeps F.keep) (codeRec_of X hcd) rfl hbind hcell hloc (fun h₁ hns hk₁ => ?_) hco hgen hk
  obtain ⟨oL, es, ep, hLg, hLd, hLk, hLf⟩ := id FG.ns
  have hfm : [env].filterMap (·.frame) = [L] := by simp [hf]
  refine wpAny_mono (h _ s.heap.objs.size h₁ FG ⟨hns, fun b o e => hk₁ b o (of_hideAll _ e), Nat.le_of_eq (hideAll_size _ _)⟩
    (fun p hp => ⟨hk₁ _ _ (N p hp).1, Nat.ne_of_lt (Heap.lt_size (N p hp).1), hideAll_none _ (List.mem_map_of_mem hp)⟩) BG (X₀.keeps st) (T.keeps st) (fun b hb => by
      rw [hfm] at hb
      rw [List.mem_singleton.mp hb]
      exact ⟨oL, es, ep, hLg, hLd⟩)) (fun fl s' hl => ?_) fun _ _ y => y
  obtain ⟨g', L', m', news', T', F', N', k⟩ := hl
  have nL₀ : h₀.get? L = none := kts_self F
  obtain ⟨sl, hs⟩ := T'.up hLg
  refine k ⟨⟨_, es, ep, F'.keep _ _ hs, hLd, hLk, hLf⟩, fun b o e => F'.keep b o (T'.other b o (st b o e) (fun q => by
    rw [hfm] at q
    rw [List.mem_singleton.mp q, nL₀] at e
    cases e)), F.above⟩ fun p hp => ⟨(N' p hp).1, fun q => ?_, ?_⟩
  · have := (N' p hp).2.2; rw [q, hs] at this; cases this
  · cases q : h₀.get? p.1 with
    | none => rfl
    | some o =>
      obtain ⟨sl', hs'⟩ := T'.up (st _ _ q)
      have := (N' p hp).2.2
      rw [hs'] at this
      cases this
end
section
variable {M : Model} {A : Around} {E : Value → Shared → Prop} {s : Shared}
/-- the first note of an exception, in its own frame: its object is known to the field -/
theorem note_first {base : Heap} {env : Env} {outer : List Env} {L e : Addr} {oe : Obj} {vs : Array Value} {Q : Unit → Shared → Prop}
    (hfr : A.frames = some (env :: outer)) (hl : s.heap.FunFrames base (env :: outer)) (hf : env.frame = some L)
    (he : s.heap.get? e = some oe) (hkb : base.StaysIn s.heap) (hen : base.get? e = none) (hd : oe.data = .fields vs) (h1 : vs[1]? = some .none)
    (h : ∀ h' T oT ts, base.StaysIn h' → h'.FunFrames base (env :: outer) → h'.get? e = some (Obj.mapFields (·.setIfInBounds 1 (.ref T)) oe) → base.get? T = none → T ≠ e → h'.get? T = some oT → oT.data = .fields ts → 3 < ts.size →
      s.heap.UpToSlots h' → Q () { s with heap := h' }) : wpAny M A (noteFrame (.ref e) env) Q E s := by
  have hsz : 1 < vs.size := (Array.getElem?_eq_some_iff.mp h1).1
  unfold noteFrame
  simp only [hf]
  refine wpAny_bind (wpAny_field he hd h1 ?_)
  rw [if_neg (by decide)]
  have hene : e ∉ (env :: outer).filterMap (·.frame) := fun hm => by
    obtain ⟨_, o, ho, hnf⟩ := hl.mem hm
    rw [he] at ho; injection ho with ho; subst ho; exact hnf vs hd
  refine wpAny_bind (wpAny_frameOf_fun hfr hl hf fun h₁ hs₁ => ?_)
  refine wpAny_bind (wpAny_entryPlaceOf fun pl hpl => ?_)
  unfold EntryCells.newEntry newFields
  refine wpAny_bind (wpAny_newObj_type ?_ (hpl.sizeOk5 _ _ _ _ _))
  have he₁ : h₁.get? e = some oe := (hs₁.2.1 e hene).trans he
  have kb₁ : base.StaysIn h₁ := fun b o hbo => (hs₁.2.1 b fun hm => by rw [(hl.mem hm).1] at hbo; cases hbo).trans (hkb b o hbo)
  generalize hoT : ({ cls := .type "traceback", dict := none, data := .fields ([Value.none, .ref L, .none, rawInt L, .none] ++ (if pl.isEmpty then List.replicate 6 Value.none else pl)).toArray } : Obj) = oT
  have hfree : oT.isFreed = false := by rw [← hoT]; rfl
  have hdT : oT.data = .fields ([Value.none, .ref L, .none, rawInt L, .none] ++ (if pl.isEmpty then List.replicate 6 Value.none else pl)).toArray := by rw [← hoT]
  have he₂ := Heap.get?_push_of_some (h := h₁) oT he₁
  refine wpAny_setField he₂ hd hsz ?_
  have hTe : h₁.objs.size ≠ e := Nat.ne_of_gt (Heap.lt_size he₁)
  have hd₃ := Obj.data_mapFields hd (·.setIfInBounds 1 (Value.ref h₁.objs.size))
  have he₃ := Heap.get?_update_self (Obj.mapFields (·.setIfInBounds 1 (Value.ref h₁.objs.size))) he₂ (Obj.isFreed_of_fields hd₃)
  have hT₃ := (Heap.get?_update_other (h₁.push oT) (Obj.mapFields (·.setIfInBounds 1 (Value.ref h₁.objs.size))) (Ne.symm hTe)).trans (Heap.get?_push_size h₁ hfree)
  have keep : ∀ b o, b ≠ e → h₁.get? b = some o → ((h₁.push oT).update e (Obj.mapFields (·.setIfInBounds 1 (Value.ref h₁.objs.size)))).get? b = some o :=
    fun b o hbe hb => by
      rw [Heap.get?_update_other _ _ (Ne.symm hbe)]
      exact Heap.get?_push_of_some _ hb
  have noRecord : ∀ b o, s.heap.get? b = some o → (∀ vs, o.data ≠ .fields vs) → b ≠ e := fun b o hb hnf q => by
    rw [q, he] at hb; injection hb with hb; subst hb; exact hnf vs hd
  refine h _ h₁.objs.size oT _ (fun b o hbo => keep b o (fun q => by rw [q, hen] at hbo; cases hbo) (kb₁ b o hbo)) (hl.of_keeps fun b o hb hnf => ?_) he₃ kb₁.fresh hTe hT₃ hdT ?_ fun b o hb hnf => ?_
  · obtain ⟨sl, hs⟩ := hs₁.2.2 b o hb
    exact ⟨_, keep b _ (noRecord b o hb hnf) hs, rfl⟩
  · simp only [List.size_toArray, List.length_append, List.length_cons, List.length_nil] <;> omega
  · obtain ⟨sl, hs⟩ := hs₁.2.2 b o hb
    exact ⟨sl, keep b _ (noRecord b o hb hnf) hs⟩
/-- the flight's mark taken off: one object is turned, the trace's -/
theorem flight_off {e T : Addr} {oe oT : Obj} {vs ts : Array Value} {Q : Unit → Shared → Prop} (he : s.heap.get? e = some oe) (hd : oe.data = .fields vs) (h1 : vs[1]? = some (.ref T)) (hT : s.heap.get? T = some oT) (hdT : oT.data = .fields ts) (h3 : 3 < ts.size)
    (h : ∀ h' oT' ts', (∀ b, b ≠ T → h'.get? b = s.heap.get? b) → h'.get? T = some oT' → oT'.data = .fields ts' → 3 < ts'.size → Q () { s with heap := h' }) : wpAny M A (setFlight (.ref e) none) Q E s := by
  unfold setFlight
  refine wpAny_bind (wpAny_field he hd h1 ?_)
  rw [if_pos (show (Value.ref T != Value.none) = true from by simp)]
  refine wpAny_setField hT hdT h3 (h _ _ _ (fun b hb => Heap.get?_update_other _ _ (Ne.symm hb)) (Heap.get?_update_self _ hT (Obj.isFreed_of_fields (Obj.data_mapFields hdT _))) (Obj.data_mapFields hdT _) (by simpa using h3))
end
section
variable {prog : Program} {w : World} {A₀ : Around} {E : Value → Shared → Prop} {s' : Shared} {base g g₀ h : Heap} {outer : List Env} {L a e t : Addr} {m : Str → Option Value} {name : Str} {scope : Scope} {cd : Value}
  {b₀ : Stmt} {suite : List Stmt} {pos np : Pos} {rest : List ExceptHandler} {news : List (Addr × Obj)} {KF : Frag}
  {p : Program} {loose : List Str} {mean : ExcName → Option Value} {mg mb : Str → Option Value} {x : Str} {X T' : String}
/-- a built-in's raise, caught by the frame that called it; the exception itself is kept in the ledger -/
theorem caught_own {Q : Flow → Shared → Prop} (hx : Heap.NewExc h s'.heap e X) (F : Fr g L h m) (N : News g L h news) (K : Below A₀ base outer g) (XB : KF.In base) (TB : Top p loose mean mg mb base)
    (D : KtsDicts (outer.filterMap (·.frame)) g) (T0 : KtsTurn (outer.filterMap (·.frame)) g₀ g)
    (ex : nsIn KF mainGlobals x = some none) (hv : bootBuiltins x = some (.type T')) (hn' : x ≠ "__name__")
    (hexc : isSubtype (.type T') (.type "BaseException") = pure true) (hnt : isSubtype (.type ((Manifest.find? T').elim "type" fun y => y.metatype)) (.type "tuple") = pure false) (hsub : isSubtype (.type X) (.type T') = pure true)
    (k : ∀ h' g' oe vs, KtsTurn (outer.filterMap (·.frame)) g₀ g' → Fr g' L h' m → News g' L h' ((e, oe) :: news) → oe.data = .fields vs → vs[2]? = some .none → (∀ q ∈ news, q.1 ≠ e) → Below A₀ base outer g' → KF.In g' → Top p loose mean mg mb g' → KtsDicts (outer.filterMap (·.frame)) g' →
      wpAny (model prog w) ((A₀.deeper (envOf name scope L a cd)).mark (some (.ref e))) (execs (b₀ :: suite) (envOf name scope L a cd)) Q E { s' with heap := h' })
    (hk : scope.kind = .function) (hxk : (envOf name scope L a cd).kindOf x = some .globalImplicit) (hdb : (x == ("__debug__" : Str)) = false)
    (hE : PassesOwnAt (model prog w) ((A₀.deeper (envOf name scope L a cd)).mark (some (.ref e))) (A₀.deeper (envOf name scope L a cd)) (envOf name scope L a cd) E) :
    wpAny (model prog w) (A₀.deeper (envOf name scope L a cd)) (noteFrame (.ref e) (envOf name scope L a cd))
      (fun _ s₂ => wpAny (model prog w) (A₀.deeper (envOf name scope L a cd)) (setFlight (.ref e) none) (fun _ s₃ =>
        wpAny (model prog w) (A₀.deeper (envOf name scope L a cd)) (handleBy (.ref e) (envOf name scope L a cd) (.ExceptHandler (some (.Name x np)) none (b₀ :: suite) pos :: rest)) Q E s₃) E s₂) E s' := by
  have K' := K.push (name := name) (a := a) (cd := cd) F hk
  have hin : ∀ env ∈ (envOf name scope L a cd :: outer), ∀ b, env.frame = some b → b ∈ (envOf name scope L a cd :: outer).filterMap (·.frame) := fun env he b hb => List.mem_filterMap.mpr ⟨env, he, hb⟩
  generalize hB : hideAll h ((envOf name scope L a cd :: outer).filterMap (·.frame)) = B
  have ofB : ∀ b o, B.get? b = some o → h.get? b = some o := fun b o q => by rw [← hB] at q; exact of_hideAll _ q
  have hBG : ∀ b o, h.get? b = some o → b ∉ (envOf name scope L a cd :: outer).filterMap (·.frame) → B.get? b = some o := fun b o q nm => by rw [← hB]; exact hideAll_get _ q nm
  have hl : ∀ q ∈ news, B.get? q.1 = some q.2 := fun q hq => hBG _ _ (N q hq).1 fun hm => by
    obtain ⟨env, he, hf⟩ := List.mem_filterMap.mp hm
    rcases List.mem_cons.mp he with rfl | he
    · exact (N q hq).2.1 (Option.some.inj hf).symm
    · obtain ⟨o, ho, _⟩ := (K.frames.mem (List.mem_filterMap.mpr ⟨env, he, hf⟩)).2
      rw [(N q hq).2.2] at ho; cases ho
  have hL : B.get? L = none := by
    rw [← hB]
    exact hideAll_none _ (hin _ (.head _) L rfl)
  have ffB : h.FunFrames B (envOf name scope L a cd :: outer) := by rw [← hB]; exact funFrames_hide K'.frames hin
  obtain ⟨ob, tp, he, hcls, hd⟩ := hx.there
  have hen : B.get? e = none := by
    cases q : B.get? e with
    | none => rfl
    | some o => have := ofB _ _ q; rw [hx.new] at this; cases this
  refine note_first K'.stack (ffB.of_keeps fun b o hb _ => ⟨o, hx.keeps b o hb, rfl⟩) rfl he (fun b o hb => hx.keeps b o (ofB _ _ hb)) hen hd rfl fun h₄ T oT ts st₄ ff₄ he₄ hT₄ hTe hoT hdT h3 up₄ => ?_
  have hd₄ := Obj.data_mapFields hd (·.setIfInBounds 1 (Value.ref T))
  refine flight_off he₄ hd₄ rfl hoT hdT h3 fun h₅ oT' ts' ot₅ hoT' hdT' h3' => ?_
  have st₅ : B.StaysIn h₅ := fun b o q => (ot₅ b fun z => by rw [z, hT₄] at q; cases q).trans (st₄ b o q)
  have up₅ : h.UpToSlots h₅ := fun b o hb hnf => by
    obtain ⟨sl, hs⟩ := up₄ b o (hx.keeps _ _ hb) hnf
    refine ⟨sl, (ot₅ b fun z => ?_).trans hs⟩
    rw [z, hoT] at hs
    cases hs
    exact hnf _ hdT
  have he₅ : h₅.get? e = some (Obj.mapFields (·.setIfInBounds 1 (.ref T)) ob) := (ot₅ e (Ne.symm hTe)).trans he₄
  obtain ⟨g₅, T₅, F₅, K₅⟩ := kts_ground K F hBG st₅ up₅
  have X₅ : KF.In g₅ := XB.keeps K₅.stays
  have P₅ : TopRead p loose mg mb g₅ := topRead_of (TB.keeps K₅.stays)
  refine wpAny_handleBy_builtin (X := X) (T := T') (b := true) hexc hnt hsub (name_B F₅ X₅ P₅ ex hv hn' ⟨rfl, ⟨_, he₅, (Obj.cls_mapFields _ _).trans hcls⟩, ?_⟩ hk hxk hdb)
  refine flight_off he₅ hd₄ rfl hoT' hdT' h3' fun h₆ oT'' ts'' ot₆ hoT'' hdT'' h3'' => ?_
  have st₆ : B.StaysIn h₆ := fun b o q => (ot₆ b fun z => by rw [z, hT₄] at q; cases q).trans (st₅ b o q)
  have up₆ : h.UpToSlots h₆ := fun b o hb hnf => by
    obtain ⟨sl, hs⟩ := up₅ b o hb hnf
    refine ⟨sl, (ot₆ b fun z => ?_).trans hs⟩
    rw [z, hoT'] at hs
    cases hs
    exact hnf _ hdT'
  have he₆ : h₆.get? e = some (Obj.mapFields (·.setIfInBounds 1 (.ref T)) ob) := (ot₆ e (Ne.symm hTe)).trans he₅
  obtain ⟨g₆, T₆, F₆, K₆⟩ := kts_ground K F hBG st₆ up₆
  have ge : g₆.get? e = none := T₆.none_ _ (kts_none F.keep hx.new)
  have eL : e ≠ L := fun z => by
    obtain ⟨oL, es, ep, hLo, hLd, _⟩ := F.ns
    rw [← z, hx.new] at hLo; cases hLo
  refine wpAny_passesOwnAt hE (k h₆ g₆ _ _ (T0.trans T₆) F₆ (fun q hq => ?_) hd₄ rfl (fun q hq z => ?_) K₆ (XB.keeps K₆.stays) (TB.keeps K₆.stays) (D.turn T₆))
  · rcases List.mem_cons.mp hq with rfl | hq
    · exact ⟨he₆, eL, ge⟩
    · exact ⟨st₆ _ _ (hl q hq), (N q hq).2.1, T₆.none_ _ (N q hq).2.2⟩
  · have := (N q hq).1
    rw [z, hx.new] at this; cases this
/-- an exception that was made before, raised in this frame, leaves it -/
theorem leave_val {M : Model} {Q : Unit → Shared → Prop} {oe : Obj} {ves : Array Value} {cls v : Value} (K : Below A₀ base outer g) (F : Fr g L s'.heap m) (N : News g L s'.heap ((e, oe) :: (t, tupO v) :: news))
    (hc : oe.cls = cls) (hd : oe.data = .fields ves) (h1 : ves[1]? = some .none) (h0 : ves[0]? = some (.ref t)) (hne : ∀ q ∈ news, q.1 ≠ e ∧ q.1 ≠ t)
    (hQ : ∀ h', RaisedS base g outer e cls t [v] news h' → g.UpToSlots h' → Q () { s' with heap := h' }) (hk : scope.kind = .function) :
    wpAny M (A₀.deeper (envOf name scope L a cd)) (leaving (envOf name scope L a cd) (.ref e)) Q E s' := by
  have K' := K.push (name := name) (a := a) (cd := cd) F hk
  have hin : ∀ env ∈ (envOf name scope L a cd :: outer), ∀ b, env.frame = some b → b ∈ (envOf name scope L a cd :: outer).filterMap (·.frame) := fun env he b hb => List.mem_filterMap.mpr ⟨env, he, hb⟩
  have ne := N (e, oe) (.head _)
  have nt := N (t, tupO v) (.tail _ (.head _))
  generalize hB : hideAll s'.heap (e :: t :: (envOf name scope L a cd :: outer).filterMap (·.frame)) = B
  have ofB : ∀ b o, B.get? b = some o → s'.heap.get? b = some o := fun b o q => by rw [← hB] at q; exact of_hideAll _ q
  have toB : ∀ b o, s'.heap.get? b = some o → b ≠ e → b ≠ t → b ∉ (envOf name scope L a cd :: outer).filterMap (·.frame) → B.get? b = some o := fun b o q h1 h2 h3 => by
    rw [← hB]
    refine hideAll_get _ q fun hm => ?_
    rcases List.mem_cons.mp hm with z | hm
    · exact h1 z
    · rcases List.mem_cons.mp hm with z | hm
      · exact h2 z
      · exact h3 hm
  have fr : ∀ q ∈ (e, oe) :: (t, tupO v) :: news, q.1 ∉ (envOf name scope L a cd :: outer).filterMap (·.frame) := fun q hq hm => by
    obtain ⟨env, he, hf⟩ := List.mem_filterMap.mp hm
    rcases List.mem_cons.mp he with rfl | he
    · exact (N q hq).2.1 (Option.some.inj hf).symm
    · obtain ⟨o, ho, _⟩ := (K.frames.mem (List.mem_filterMap.mpr ⟨env, he, hf⟩)).2
      rw [(N q hq).2.2] at ho; cases ho
  have st : base.StaysIn B := fun b o q => toB b o (K'.stays b o q) (fun z => by rw [z, fresh_of_stays K.stays ne.2.2] at q; cases q) (fun z => by rw [z, fresh_of_stays K.stays nt.2.2] at q; cases q)
    fun hm => by rw [(K'.frames.mem hm).1] at q; cases q
  have sg : ∀ b o, g.get? b = some o → b ∉ outer.filterMap (·.frame) → B.get? b = some o := fun b o q nm => toB b o (F.keep b o q) (fun z => by rw [z, ne.2.2] at q; cases q) (fun z => by rw [z, nt.2.2] at q; cases q) fun hm => by
    rcases kts_mem hm with z | z
    · rw [z, kts_self F] at q
      cases q
    · exact nm z
  have hl : ∀ q ∈ news, B.get? q.1 = some q.2 ∧ g.get? q.1 = none ∧ base.get? q.1 = none := fun q hq =>
    ⟨toB _ _ (N q (.tail _ (.tail _ hq))).1 (hne q hq).1 (hne q hq).2 (fr q (.tail _ (.tail _ hq))), (N q (.tail _ (.tail _ hq))).2.2, fresh_of_stays K.stays (N q (.tail _ (.tail _ hq))).2.2⟩
  have hen : B.get? e = none := by rw [← hB]; exact hideAll_none _ (.head _)
  have htn : B.get? t = none := by rw [← hB]; exact hideAll_none _ (.tail _ (.head _))
  have ff : s'.heap.FunFrames B (envOf name scope L a cd :: outer) := by
    rw [← hB]
    exact funFrames_hide K'.frames fun env he b hb => .tail _ (.tail _ (hin env he b hb))
  refine wpAny_leaving_firstW (a0 := .ref t) K'.stack ff rfl ne.1 ofB hen hd h1 h0 fun h' hL => ?_
  obtain ⟨k1, ⟨_, _, k2⟩, k3, k4⟩ := hL
  rw [hc] at k3
  exact hQ h' ⟨⟨B, st, sg, hl, ⟨k1, hen, k2, k3⟩, htn⟩, Heap.TupAt.of_slots ⟨_, _, nt.1, rfl, rfl⟩ k4⟩ ((Heap.UpToSlots.of_keeps F.keep).trans k4)
end
noncomputable def excO2 (t ve : Addr) : Obj := { cls := .ref 24, data := .fields #[.ref t, .none, .ref ve, .none, .bool true, .none] }
theorem toml_kts (P : Params) : ktsIn (Mine.hd.heap_39 P) 24 "BaseException" = true := by kernel_rfl
theorem entry_unchain : entryFor table "proto.unchain" = some Builtin.«proto.unchain» := entryFor_of_tree (by kernel_rfl)
theorem plain_unchain : plainId "proto.unchain" = true := by decide +kernel
section
variable {prog : Program} {w : World} {A : Around} {E : Value → Shared → Prop} {s : Shared} {env : Env} {P : Params}
theorem raise_val {x : Expr} {pos : Pos} {Q : Flow → Shared → Prop} (hh : A.handled = none)
    (h : wpAny (model prog w) A (eval x env) (fun v s₁ => ∃ e t, v = .ref e ∧ (Mine.hd.heap_39 P).In s₁.heap ∧ s₁.heap.get? e = some (excO 24 t) ∧ E (.ref e) s₁) E s) :
    wpAny (model prog w) A (exec (.Raise (some x) none pos) env) Q E s := by
  rw [arm_exec_Raise]
  simp only [arm_evalOpt_some, Option.map]
  refine wpAny_bind (wpAny_standAt ?_)
  unfold raiseStmt
  refine wpAny_bind (wpAny_bind (wpAny_mono h (fun v s₁ h₁ => wpAny_bind (wpAny_standAt (wpAny_pure ?_))) fun _ _ x => x))
  obtain ⟨e, t, rfl, X, he, hE⟩ := h₁
  obtain ⟨nm, qn, N, bs, bm, hdct, sn, sub, ab, col, dd, k0, k1, k2, k3, k5, newId, hC, hbase, _⟩ := kts_cls X (toml_kts P)
  have hcB : (Value.ref 24 :: bm).contains (.type "BaseException") = true := by rw [List.contains_cons, hbase, Bool.or_true]
  obtain ⟨hp, g, d, tk, os⟩ := s₁
  unfold excO at he
  repeat (first | with_reducible refine wpAny_loadPart_at he ?_ | with_reducible refine wpAny_loadPart_at hC ?_ | (with_reducible refine wpAny_isSubtype_exc hC ?_; rw [hcB]) | wp_step)
  exact wpAny_raiseNew_none hh hE
theorem raise_from {x : Expr} {pos p2 : Pos} {k : Nat} {Q : Flow → Shared → Prop} {ve : Addr} (hh : A.handled = some (.ref ve))
    (h : wpAny (model prog w) A (eval x env) (fun v s₁ => ∃ e t oe vs, v = .ref e ∧ (Mine.hd.heap_39 P).In s₁.heap ∧ s₁.heap.get? e = some (excO 24 t) ∧ s₁.heap.get? ve = some oe ∧ oe.data = .fields vs ∧ vs[2]? = some .none ∧ ve ≠ e ∧
      ∀ h', Heap.SameBut e s₁.heap h' → h'.get? e = some (excO2 t ve) → E (.ref e) { s₁ with heap := h' }) E s) :
    wpAny (model prog w) A (exec (.Raise (some x) (some (.Constant .none k p2)) pos) env) Q E s := by
  rw [arm_exec_Raise]
  simp only [arm_evalOpt_some, Option.map]
  refine wpAny_bind (wpAny_standAt ?_)
  unfold raiseStmt
  refine wpAny_bind (wpAny_bind (wpAny_mono h (fun v s₁ h₁ => wpAny_bind (wpAny_standAt (wpAny_pure ?_))) fun _ _ x => x))
  obtain ⟨e, t, oe, vs, rfl, X, he, hve, hdv, hv2, hne, hE⟩ := h₁
  obtain ⟨nm, qn, N, bs, bm, hdct, sn, sub, ab, col, dd, k0, k1, k2, k3, k5, newId, hC, hbase, _⟩ := kts_cls X (toml_kts P)
  have hcB : (Value.ref 24 :: bm).contains (.type "BaseException") = true := by rw [List.contains_cons, hbase, Bool.or_true]
  obtain ⟨hp, g, d, tk, os⟩ := s₁
  unfold excO at he
  dsimp only at he hve hC
  have hCe : (24 : Nat) ≠ e := fun z => by
    rw [← z, hC] at he
    cases he
  have s1 := Heap.SameBut.update hp e (Obj.mapFields (·.setIfInBounds 3 Value.none))
  have g1 := Heap.get?_update_self (Obj.mapFields (·.setIfInBounds 3 Value.none)) he rfl
  generalize hp1 : hp.update e (Obj.mapFields (·.setIfInBounds 3 Value.none)) = h1 at s1 g1
  have s2 := Heap.SameBut.update h1 e (Obj.mapFields (·.setIfInBounds 4 (Value.bool true)))
  have g2 := Heap.get?_update_self (Obj.mapFields (·.setIfInBounds 4 (Value.bool true))) g1 rfl
  generalize hp2 : h1.update e (Obj.mapFields (·.setIfInBounds 4 (Value.bool true))) = h2 at s2 g2
  have s3 := Heap.SameBut.update h2 e (Obj.mapFields (·.setIfInBounds 2 (Value.ref ve)))
  have g3 := Heap.get?_update_self (Obj.mapFields (·.setIfInBounds 2 (Value.ref ve))) g2 rfl
  have c2 : h2.get? 24 = some (excClassObj nm qn 24 N bs bm hdct sn sub ab col dd k0 k1 k2 k3 k5 newId) := (s2.2 _ hCe).trans ((s1.2 _ hCe).trans hC)
  have v2 : h2.get? ve = some oe := (s2.2 _ hne).trans ((s1.2 _ hne).trans hve)
  refine wpAny_bind (wpAny_holding ?_)
  rw [show eval (Expr.Constant Const.none k p2) env = pure Value.none from rfl]
  refine wpAny_bind (wpAny_pure ?_)
  refine wpAny_bind (wpAny_standAt (wpAny_pure (wpAny_bind (wpAny_pure ?_))))
  dsimp only
  repeat (first | with_reducible refine wpAny_loadPart_at he ?_ | with_reducible refine wpAny_loadPart_at hC ?_ | (with_reducible refine wpAny_isSubtype_exc hC ?_; rw [hcB]) | wp_step)
  rw [hp1, hp2]
  unfold raiseNew
  refine wpAny_bind (wpAny_handled ?_)
  rw [hh]
  dsimp only
  have hb : (Value.ref ve != Value.ref e) = true := by simp [hne]
  simp only [hb, if_true]
  refine wpAny_bind (wpAny_holding (wpAny_runValue (codeAny_builtin entry_unchain ?_)))
  rw [Around.under_plainId plain_unchain _]
  unfold Builtin.«proto.unchain»
  dsimp only
  refine wpAny_bind (wpAny_field (s := { heap := h2, gens := g, drawn := d, toks := tk, os := os }) v2 hdv hv2 ?_)
  rw [if_pos (by rfl)]
  refine wpAny_pure ?_
  show wpAny _ _ (updateField e 2 (Value.ref ve) >>= _) _ _ _
  simp only [updateField]
  refine wpAny_bind (wpAny_bind (wpAny_load g2 ?_))
  show wpAny _ _ (if 2 < _ then _ else _) _ _ _
  rw [if_pos (Nat.lt_of_succ_le (Nat.le_of_ble_eq_true rfl))]
  refine wpAny_update g2 (wpAny_throw ?_)
  exact hE _ ((s1.trans s2).trans s3) g3
end
end Mine
end
section -- LStrExc
theorem Mine.rstLStrExc : True := by
  w_top off
  trivial
open PySem PySem.W PyProof.Rows PySem.Calls PySem.Builtin PySem.Builtin.Str
set_option Elab.async false
set_option maxRecDepth 100000
set_option maxHeartbeats 1000000
namespace Mine
theorem toml_nsok (P : Params) : nsOkIn (Mine.hd.heap_39 P) 23 = true := by kernel_rfl
theorem toml_nostr (P : Params) : nsIn (Mine.hd.heap_39 P) 23 (Str.ofString "__str__") = some none := by kernel_rfl
theorem toml_cls (P : Params) : ∃ nm q bs hdct sn sub ab col dd k0 k1 k2 k3 k5, (Mine.hd.heap_39 P).lookup 24 = some (excClassObj nm q 24 23 bs [.type "ValueError", .type "Exception", .type "BaseException", .type "object"] hdct sn sub ab col dd k0 k1 k2 k3 k5 "ValueError.__new__") :=
  ⟨Str.ofString "TOMLDecodeError", Str.ofString "TOMLDecodeError", [.type "ValueError"], true, [], [], false, none, none, some (.ref 15), none, some (.str (Str.ofString "TOMLDecodeError") 189), some (.str (Str.ofString "TOMLDecodeError") 197), some (.bool true), by kernel_rfl⟩
theorem look_str : typeLookup (.type "ValueError") "__str__" = pure (some (.builtin "BaseException.__str__")) := by rw [typeLookup_type, builtinLookup_eq_fast]; kernel_rfl
theorem type_bexc_str : typeOf (.builtin "BaseException.__str__") = pure (.type "wrapper_descriptor") := by show builtinType _ = _; rw [builtinType_eq_fast]; kernel_rfl
theorem kind_bexc_str : builtinKind "BaseException.__str__" = some .slot := by kernel_rfl
theorem split_bexc_str : splitId "BaseException.__str__" = some ("BaseException", "__str__") := by kernel_rfl
theorem plain_bexc_str : plainId "BaseException.__str__" = true := by decide +kernel
theorem bind_bexc_str (self : Value) : bindSpecial (.builtin "BaseException.__str__") self = pure (.builtin "BaseException.__str__", [self]) := by
  have hop : withoutEnding? "BaseException.__str__" "#opaque" = none := by decide +kernel
  have hdat : withoutEnding? "BaseException.__str__" "#data" = none := by decide +kernel
  simp only [bindSpecial, typeOf, builtinType, hop, hdat, kind_bexc_str]; rfl
section
variable {prog : Program} {w : World} {A : Around} {E : Value → Shared → Prop} {s : Shared} {e t0 : Addr} {oe : Obj} {vs : Array Value} {P : Params}
theorem check_toml_str {Q : Unit → Shared → Prop} (X : (Mine.hd.heap_39 P).In s.heap) (he : s.heap.get? e = some oe) (hc : oe.cls = .ref 24) (hQ : Q () s) :
    wpAny (model prog w) A (checkBuiltinCall "BaseException.__str__" ⟨[.ref e], []⟩) Q E s := by
  obtain ⟨nm, q, bs, hdct, sn, sub, ab, col, dd, k0, k1, k2, k3, k5, hl⟩ := toml_cls P
  have hC := X _ _ hl
  obtain ⟨hp, g, d, tk, os⟩ := s
  have ha := F.args_bexc_str (.ref e)
  simp only [checkBuiltinCall, kind_bexc_str, split_bexc_str]
  unfold isInstance
  refine wpAny_bind ?_
  repeat (first | (with_reducible refine wpAny_loadPart_at he ?_; rw [hc]) | (with_reducible refine wpAny_isSubtype_exc hC ?_; rw [show ([Value.ref 24, .type "ValueError", .type "Exception", .type "BaseException", .type "object"].contains (.type "BaseException")) = true from rfl]) | wp_step)
  exact hQ
theorem strOf_toml {mm : Str} {tk : Tok} {Q : Value → Shared → Prop} (hu : A.units < cLine) (X : (Mine.hd.heap_39 P).In s.heap) (he : s.heap.get? e = some oe) (hc : oe.cls = .ref 24) (hd : oe.data = .fields vs) (h0 : vs[0]? = some (.ref t0)) (ht : s.heap.TupAt t0 [.str mm tk]) (hQ : Q (.str mm tk) s) :
    wpAny (model prog w) A (PySem.Builtin.Str.strOf (.ref e)) Q E s := by
  obtain ⟨nm, q, bs, hdct, sn, sub, ab, col, dd, k0, k1, k2, k3, k5, hl⟩ := toml_cls P
  have hC := X _ _ hl
  have hn : s.heap.Ns 23 (s.heap.nsMap 23) := .of_isNs (isNs_of_in X (toml_nsok P))
  have hns : s.heap.nsMap 23 (Str.ofString "__str__") = none := nsMap_none_of_in X (toml_nsok P) (toml_nostr P)
  unfold PySem.Builtin.Str.strOf
  rw [if_neg (by show ¬ (false = true); decide)]
  refine wpAny_bind (wpAny_cRoomFor hu ?_)
  refine wpAny_bind ?_
  unfold callSpecial? specialOf
  have hT : wpAny (model prog w) A (typeOf (.ref e)) (fun v s' => v = .ref 24 ∧ s' = s) E s := by
    obtain ⟨hp, g, d, tkk, os⟩ := s
    repeat (first | (with_reducible refine wpAny_loadPart_at he ?_; rw [hc]) | wp_step)
    exact ⟨rfl, rfl⟩
  refine wpAny_bind (wpAny_bind (wpAny_mono hT (fun v s' hv => ?_) fun _ _ x => x))
  obtain ⟨rfl, rfl⟩ := hv
  obtain ⟨hp, g, d, tkk, os⟩ := s'
  refine wpAny_typeLookup_exc hC hn F.excBase_ValueError.mroIs look_str ?_
  rw [show (Shared.heap ⟨hp, g, d, tkk, os⟩).nsMap 23 (Str.ofString "__str__") = none from hns]
  dsimp only
  refine wpAny_holding (wpAny_bind (wpAny_of_eq (bind_bexc_str _) ?_))
  refine wpAny_bind (wpAny_call (codeAny_call_builtin plain_bexc_str F.entry_bexc_str (check_toml_str X he hc ?_)))
  unfold Builtin.«BaseException.__str__»
  have hb : ∀ {Q : Value × List Value → Shared → Prop}, Q (.ref t0, [.str mm tk]) ⟨hp, g, d, tkk, os⟩ → ∀ {E : Value → Shared → Prop}, wpAny (model prog w) A.in1 (PySem.Builtin.BaseException.bexcArgs (.ref e)) Q E ⟨hp, g, d, tkk, os⟩ := by
    intro Q hq E
    obtain ⟨ot, k, hto, _, htd⟩ := ht
    unfold PySem.Builtin.BaseException.bexcArgs
    exact wpAny_bind (wpAny_field he hd h0 (wpAny_bind (wpAny_seqItems hto htd (wpAny_pure hq))))
  repeat (first | with_reducible refine hb ?_ | wp_step)
  all_goals exact hQ
theorem str_toml {mm : Str} {tk : Tok} {Q : Value → Shared → Prop} (hu : A.units + 2 < cLine) (X : (Mine.hd.heap_39 P).In s.heap) (he : s.heap.get? e = some oe) (hc : oe.cls = .ref 24) (hd : oe.data = .fields vs) (h0 : vs[0]? = some (.ref t0)) (ht : s.heap.TupAt t0 [.str mm tk]) (h : Q (.str mm tk) s) :
    wpAny (model prog w) A (call (.type "str") [.ref e]) Q E s :=
  callType_new F.called_str (by decide) (F.typeCall_str_1 _) (F.newCall_str_1 _) (fun obj => F.args_object_init_2 obj _) F.entry_str_new
    (meets_str_new (S := fun A' R s' => A'.units + 1 < cLine ∧ (Mine.hd.heap_39 P).In s'.heap ∧ s'.heap.get? e = some oe ∧ s'.heap.TupAt t0 [.str mm tk] ∧ R (.ok (.ret (.str mm tk))) s')
      fun _ _ A' _ _ hq => strOf_toml (A := A'.in1) hq.1 hq.2.1 hq.2.2.1 hc hd h0 hq.2.2.2.1 hq.2.2.2.2)
    ⟨(show A.units + 1 + 1 < cLine from hu), X, he, ht, typeIs_str _ _ _, h⟩
end
end Mine
end
section -- LGround
theorem Mine.rstLGround : True := by
  w_top off
  trivial
open PySem PySem.W PyProof.Rows PySem.Calls PySem.Builtin PySem.Builtin.Str
set_option Elab.async false
set_option maxRecDepth 100000
set_option maxHeartbeats 1000000
namespace Mine
/-- the caller's ground, anew, where the callee's has turned by slots alone -/
theorem up_ground {A₀ : Around} {base h₀ g g' : Heap} {outer : List Env} {L a : Addr} {m : Str → Option Value} {cn : Str} {cs : Scope} {ccd : Value} (B : Below A₀ base outer h₀) (FG : Fr h₀ L g m)
    (T' : KtsTurn ((envOf cn cs L a ccd :: outer).filterMap (·.frame)) g g') :
    ∃ h₁, KtsTurn (outer.filterMap (·.frame)) h₀ h₁ ∧ Fr h₁ L g' m ∧ Below A₀ base outer h₁ := by
  have nL₀ : h₀.get? L = none := kts_self FG
  obtain ⟨T₁, S₁⟩ := kts_turn_at (h := g') (fs := outer.filterMap (·.frame)) (g := h₀)
    (fun b hb => by
      obtain ⟨_, o, ho', _⟩ := B.frames.mem hb
      exact ⟨o, ho'⟩)
    (fun b o e nmem => T'.other b o (FG.keep b o e) (fun q => by
      rcases kts_mem q with z | z
      · rw [z, nL₀] at e
        cases e
      · exact nmem z))
    (fun b o e hm => T'.up (FG.keep b o e))
  obtain ⟨oL, es, ep, hLg, hLd, hLk, hLf⟩ := FG.ns
  obtain ⟨sl, hs⟩ := T'.up hLg
  refine ⟨_, T₁, ⟨⟨_, es, ep, hs, hLd, hLk, hLf⟩, S₁, by rw [T₁.size]; exact FG.above⟩, ⟨B.stack, fun b o e => T₁.other b o (B.stays b o e) (fun hm => by
    rw [(B.frames.mem hm).1] at e
    cases e), B.frames.of_keeps fun b o e _ => by
    obtain ⟨sl', hs'⟩ := T₁.up e
    exact ⟨_, hs', rfl⟩⟩⟩
end Mine
end
section -- LLoop
theorem Mine.rstLLoop : True := by
  w_top off
  trivial
open PySem PySem.W PyProof.Rows PySem.Calls PySem.Builtin PySem.Builtin.Str
set_option Elab.async false
set_option maxRecDepth 100000
set_option maxHeartbeats 1000000
namespace Mine
theorem frMap {g h : Heap} {L : Addr} {m : Str → Option Value} {P : Prop} (F : Fr g L h m) (k : ∀ M : Str → Option Value, M = m → Fr g L h M → P) : P := k m rfl F
section
variable {prog : Program} {w : World} {A : Around} {E : Value → Shared → Prop} {s : Shared} {env : Env} {Q : Flow → Shared → Prop}
/-- a statement, and what is behind it, parted by what holds between them -/
theorem join_at {st : Stmt} {rest : List Stmt} (J : Shared → Prop) (h1 : wpAny (model prog w) A (exec st env) (fun f s' => match f with | .next => J s' | f => Q f s') E s)
    (h2 : ∀ s', J s' → wpAny (model prog w) A (execs rest env) Q E s') : wpAny (model prog w) A (execs (st :: rest) env) Q E s := by
  refine wpAny_execs_cons (wpAny_mono h1 (fun f s' hf => ?_) fun _ _ e => e)
  cases f with
  | next => exact h2 s' hf
  | brk => exact hf
  | cont => exact hf
  | ret v => exact hf
noncomputable def WEnd (J : Nat → Shared → Prop) (Q : Flow → Shared → Prop) (n : Nat) (f : Flow) (s : Shared) : Prop :=
  match f with
  | .next => ∃ n', n' < n ∧ J n' s
  | .cont => ∃ n', n' < n ∧ J n' s
  | .brk => Q .next s
  | .ret v => Q (.ret v) s
/-- a test's two ways -/
structure WTurn (b : Bool) (P N : Prop) : Prop where
  yes : b = true → P
  no : b = false → N
theorem WTurn.on {P N : Prop} (h : P) : WTurn true P N := ⟨fun _ => h, nofun⟩
theorem WTurn.off {P N : Prop} (h : N) : WTurn false P N := ⟨nofun, fun _ => h⟩
theorem while_at {test : Expr} {body orelse : List Stmt} {pos : Pos} (J : Nat → Shared → Prop) (hE : PassesOwn (model prog w) A env E)
    (turn : ∀ n s, J n s → wpAny (model prog w) A (isTrue test env (eval test env)) (fun b s₂ => WTurn b (wpAny (model prog w) A (execs body env) (WEnd J Q n) E s₂) (wpAny (model prog w) A (execs orelse env) Q E s₂)) E s)
    (n : Nat) (h0 : J n s) : wpAny (model prog w) A (exec (.While test body orelse pos) env) Q E s := by
  refine whl_start 1 ?_
  have key : ∀ n s, J n s → WhlRest prog w A E env test body orelse Q 0 s := by
    intro n
    induction n using Nat.strongRecOn with
    | ind n ih =>
      intro s hJ
      show WhlRest prog w A E env test body orelse Q (0 + 1) s
      refine whl_turn hE (wpAny_mono (turn n s hJ) (fun b s₂ hb => ?_) fun _ _ e => e)
      cases b with
      | false => exact .no rfl (hb.2 rfl)
      | true =>
        refine .yes rfl (wpAny_mono (hb.1 rfl) (fun f s₃ hf => ?_) fun _ _ e => e)
        cases f with
        | next => obtain ⟨n', hlt, hj⟩ := hf; exact ih n' hlt s₃ hj
        | cont => obtain ⟨n', hlt, hj⟩ := hf; exact ih n' hlt s₃ hj
        | brk => exact hf
        | ret v => exact hf
  exact key n s h0
end
end Mine
end
section -- LTxt
theorem Mine.rstLTxt : True := by
  w_top off
  trivial
open PySem PySem.W PyProof PyProof.Rows PySem.Calls PySem.Builtin PySem.Builtin.Str PySem.StrLaws
set_option Elab.async false
set_option maxRecDepth 100000
set_option maxHeartbeats 1000000
namespace Mine
noncomputable def chS (p : Str) (j : Nat) : Str := ⟨#[p.cps.getD j 0]⟩
theorem chS_len (p : Str) (j : Nat) : (chS p j).length = 1 := rfl
theorem slice_nat {x : Str} {i j : Int} (h0 : 0 ≤ i) (h1 : i ≤ j) (h2 : j ≤ x.length) : Txt.slice x (some i) (some j) = ⟨((x.cps.toList.drop i.toNat).take (j - i).toNat).toArray⟩ :=
  eq_of_beq (slice_closesL h0 h1 h2)
theorem item_ch {p : Str} {k : Nat} (h : k < p.length) : Txt.item p (k : Int) = chS p k := by
  unfold Txt.item Txt.charAt chS
  have : k < p.cps.size := h
  have e : seqIndex? (k : Int) p.length = some k := by
    unfold seqIndex?
    simp only [show ¬ ((k : Int) < 0) by omega, if_false]
    simp [Str.length, this]
  rw [e]
  simp [Array.getD, this]
theorem slice_all {p : Str} {S : Str → Bool} {i j : Nat} (h1 : i ≤ j) (h2 : j ≤ p.length) :
    ((Txt.slice p (some (i : Int)) (some (j : Int))).cps.toList.all fun c => !S ⟨#[c]⟩) = true ↔ ∀ k : Nat, i ≤ k → k < j → S (chS p k) = false := by
  rw [slice_nat (Int.natCast_nonneg i) (Int.ofNat_le.mpr h1) (Int.ofNat_le.mpr h2)]
  have hj : j ≤ p.cps.size := h2
  simp only [Int.toNat_natCast, Int.toNat_sub, List.all_eq_true, List.mem_iff_getElem?]
  constructor
  · intro h k hk1 hk2
    have hk : k < p.cps.size := Nat.lt_of_lt_of_le hk2 hj
    have := h (p.cps.getD k 0) ⟨k - i, by
      simp [List.getElem?_take, List.getElem?_drop, Nat.sub_lt_sub_right hk1 hk2, Nat.add_sub_cancel' hk1, Array.getD, hk]⟩
    simpa [chS] using this
  · rintro h c ⟨q, hq⟩
    rw [List.getElem?_take] at hq
    split at hq
    · rename_i hlt
      rw [List.getElem?_drop] at hq
      have hq2 : i + q < j := Nat.add_lt_of_lt_sub' hlt
      have hk : i + q < p.cps.size := Nat.lt_of_lt_of_le hq2 hj
      have := h (i + q) (Nat.le_add_right i q) hq2
      have hc : c = p.cps.getD (i + q) 0 := by
        simp [Array.getD, hk] at hq ⊢
        exact hq.symm
      rw [hc]
      simpa [chS] using this
    · cases hq
theorem from_nat {n i : Nat} : fromIndex n (i : Int) = i := by
  unfold fromIndex
  simp [show ¬ ((i : Int) < 0) by omega]
end Mine
end
section -- LSeq
theorem Mine.rstLSeq : True := by
  w_top off
  trivial
open PySem PySem.W PyProof PyProof.Rows PySem.Calls PySem.Builtin PySem.Builtin.Str PySem.StrLaws
set_option Elab.async false
set_option maxRecDepth 100000
set_option maxHeartbeats 1000000
namespace Mine
section
variable {prog : Program} {w : World} {A : Around} {E : Value → Shared → Prop} {s : Shared} {g : Heap} {L a b : Addr} {news : List (Addr × Obj)} {Q : Value → Shared → Prop} {xs ys : List Value} {n k : Nat} {ns ms : List Int}
noncomputable abbrev lsO (xs : List Value) (n : Nat) : Obj := { cls := .type "list", data := .seq xs.toArray n }
theorem is_led (N : News g L s.heap news) (m : (a, lsO xs n) ∈ news) : s.heap.IsList a xs.toArray := ⟨_, (N _ m).1, rfl, _, rfl⟩
theorem eq_led (N : News g L s.heap news) (ma : (a, lsO xs n) ∈ news) (mb : (b, lsO ys k) ∈ news) (hx : IntsAre xs ns) (hy : IntsAre ys ms) (hu : A.units + 64 < cLine) (h : Q (.bool (decide (ns = ms))) s) :
    wpAny (model prog w) A (compareOp .Eq (.ref a) (.ref b)) Q E s := ke_eq_ints (is_led N ma) (is_led N mb) hx hy hu h
theorem ne_led (N : News g L s.heap news) (ma : (a, lsO xs n) ∈ news) (mb : (b, lsO ys k) ∈ news) (hx : IntsAre xs ns) (hy : IntsAre ys ms) (hu : A.units + 64 < cLine) (h : Q (.bool (!decide (ns = ms))) s) :
    wpAny (model prog w) A (compareOp .NotEq (.ref a) (.ref b)) Q E s := ke_ne_ints (is_led N ma) (is_led N mb) hx hy hu h
end
end Mine
end
section -- LIter
theorem Mine.rstLIter : True := by
  w_top off
  trivial
open PySem PySem.W PyProof PyProof.Rows PySem.Calls PySem.Builtin PySem.Builtin.Str PySem.StrLaws
set_option Elab.async false
set_option maxRecDepth 100000
set_option maxHeartbeats 1000000
namespace Mine
section
variable {prog : Program} {w : World} {A : Around} {E : Value → Shared → Prop} {s : Shared} {env : Env} {h₀ : Heap} {x : Str} {body : List Stmt} {Q : Flow → Shared → Prop}
/-- a turn's end: the ledger may have grown -/
noncomputable def InvEndI (h₀ : Heap) (L : Addr) (J : (Str → Option Value) → List (Addr × Obj) → Prop) (own : List (Addr × Obj)) (I : Addr) (s₁ s₂ : Shared) : Prop :=
  ∃ h' tk m' news' nx, s₂ = { s₁ with heap := h', toks := tk } ∧ Fr h₀ L h' m' ∧ News h₀ L h' news' ∧ (∀ p ∈ nx, p ∈ news') ∧ (∀ p ∈ own, p ∈ news') ∧ (∀ p ∈ nx, p.1 ≠ I) ∧ J m' nx
noncomputable def InvPostI (h₀ : Heap) (L : Addr) (J : (Str → Option Value) → List (Addr × Obj) → Prop) (own : List (Addr × Obj)) (I : Addr) (s₁ : Shared) (Q : Flow → Shared → Prop) (f : Flow) (s₂ : Shared) : Prop :=
  match f with
  | .ret v => Q (.ret v) s₂
  | .brk => Q .next s₂
  | _ => InvEndI h₀ L J own I s₁ s₂
theorem iter_rangeG {r : Addr} {a₀ b₀ : Int} {t₀ u₀ v₀ : Tok} {n : Nat} {m₀ : Str → Option Value} {news : List (Addr × Obj)} (J : Nat → (Str → Option Value) → List (Addr × Obj) → Prop)
    (hh : A.handled = none) (hr : IsRange s.heap r a₀ b₀ 1 t₀ u₀ v₀) (hsmall : Builtin.Range.small a₀ b₀ 1 = true) (hn : Builtin.Range.rangeSize a₀ b₀ 1 = (n : Int)) (F : Fr h₀ env.locals s.heap m₀) (N : News h₀ env.locals s.heap news) (hj : J 0 m₀ news)
    (turn : ∀ (i : Nat) t m₁ nx h tk own I, i < n → (∀ p ∈ own, p.1 = I) → (∃ o a b, (I, o) ∈ own ∧ IsRangeIter h I a b 1) → (∀ p ∈ nx, p.1 ≠ I) → J i m₁ nx → Fr h₀ env.locals h (fun y => if y = x then some (.int (a₀ + (i : Int)) t) else m₁ y) → News h₀ env.locals h (nx ++ own) →
      wpAny (model prog w) A (execs body env) (InvPostI h₀ env.locals (J (i + 1)) own I { s with heap := h, toks := tk } Q) E { s with heap := h, toks := tk })
    (done : ∀ m₁ nx h tk, J n m₁ nx → Fr h₀ env.locals h m₁ → News h₀ env.locals h nx → Q .next { s with heap := h, toks := tk }) :
    wpAny (model prog w) A (pyIter (.ref r)) (fun it s₂ => LoopAtV prog w A h₀ env x body Q E it s₂) E s := by
  refine wpAny_pyIter_range hr hsmall ?_
  have W : Walks prog w A s.heap.objs.size [s.heap.objs.size] [s.heap.objs.size] n (fun i v => i < n ∧ ∃ t, v = .int (a₀ + i * 1) t)
      (fun i h => IsRangeIter h s.heap.objs.size (a₀ + (i : Nat) * 1) ((n : Int) - (i : Nat)) 1) := (Walks.range hh _ a₀ 1 n).bound
  refine ⟨_, _, _, n, _, _, m₀, news, J, rfl, W, ?_, ?_, ?_, (by show IsRangeIter _ _ _ _ _; rw [hn]; simpa using Heap.get?_push_size _ rfl), F.push _, (fun p hp => ⟨Heap.get?_push_of_some _ (N p hp).1, (N p hp).2⟩), hj, ?_, ?_⟩
  · intro hm
    exact absurd F.ns.lt ((List.mem_singleton.mp hm) ▸ Nat.lt_irrefl _)
  · intro b hb
    rw [List.mem_singleton.mp hb]
    exact next_is_new F
  · intro p hp hI
    exact absurd (Heap.lt_size (N p hp).1) ((List.mem_singleton.mp hI) ▸ Nat.lt_irrefl _)
  · rintro i v m₁ news₁ s₁ own ⟨hh', tk', rfl⟩ hin ⟨_, t, rfl⟩ hJ hoff hown _ hfp hst F₁ N₁
    have hI0 : h₀.get? s.heap.objs.size = none := next_is_new F
    have hoI := hst
    have hIown := hfp _ (.head _) hI0 _ hoI
    have N₂ : News h₀ env.locals hh' (news₁ ++ own) := fun p hp => N₁ p ((List.mem_append.mp hp).elim (fun h => List.mem_append.mpr (.inr h)) fun h => List.mem_append.mpr (.inl h))
    have F₂ : Fr h₀ env.locals hh' (fun y => if y = x then some (.int (a₀ + (i : Int)) t) else m₁ y) := by
      rw [show a₀ + (i : Int) = a₀ + i * 1 by omega]
      exact F₁
    refine wpAny_mono (turn i t m₁ news₁ hh' tk' own s.heap.objs.size hin (fun p hp => List.mem_singleton.mp (hown p hp)) ⟨_, _, _, hIown, hst⟩ (fun p hp z => hoff p hp (List.mem_singleton.mpr z)) hJ F₂ N₂) (fun f s₂ p => ?_) fun _ _ e => e
    have fin : InvEndI h₀ env.locals (J (i + 1)) own s.heap.objs.size { s with heap := hh', toks := tk' } s₂ → LoopStepU h₀ env.locals [s.heap.objs.size] own (J (i + 1)) { s with heap := hh', toks := tk' } .next s₂ := by
      rintro ⟨h', tk, m', news', nx, e, F', N', hn, ho, ha, hm⟩
      exact ⟨rfl, h', tk, m', nx, e, F', fun p hp => N' p ((List.mem_append.mp hp).elim (ho p) (hn p)), fun p hp hq => ha p hp (List.mem_singleton.mp hq), hm⟩
    cases f with
    | ret v => exact .ret p
    | brk => exact .brk p
    | next => exact .next (fin p)
    | cont => exact .cont (fin p)
  · rintro h' tk m' news' F' N' _ hJ
    exact done m' news' h' tk hJ F' N'
end
end Mine
end
section -- LPat
theorem Mine.rstLPat : True := by
  w_top off
  trivial
open PySem PySem.W PyProof PyProof.Rows PySem.Calls PySem.Builtin PySem.Builtin.Str PySem.StrLaws PySem.Builtin.ObjectAttr
set_option Elab.async false
set_option maxRecDepth 100000
set_option maxHeartbeats 1000000
namespace Mine
noncomputable abbrev excM : List Value := [.type "Exception", .type "BaseException", .type "object"]
theorem pat_nsok (P : Params) : nsOkIn (Mine.hd.heap_39 P) 85 = true := by kernel_rfl
theorem pat_none (P : Params) (n : Str) (h : n ∈ [Str.ofString "__setattr__", Str.ofString "__getattribute__", Str.ofString "__getattr__", Str.ofString "msg", Str.ofString "pattern", Str.ofString "pos", Str.ofString "lineno", Str.ofString "colno"]) : nsIn (Mine.hd.heap_39 P) 85 n = some none := by
  simp only [List.mem_cons, List.mem_nil_iff, or_false] at h
  rcases h with rfl | rfl | rfl | rfl | rfl | rfl | rfl | rfl <;> kernel_rfl
theorem pat_init (P : Params) : nsIn (Mine.hd.heap_39 P) 85 (Str.ofString "__init__") = some (some (.ref 83)) := by kernel_rfl
theorem pat_cls (P : Params) : ∃ nm q bs sn sub ab col dd k0 k1 k2 k3 k5, (Mine.hd.heap_39 P).lookup 86 = some (excClassObj nm q 86 85 bs excM true sn sub ab col dd k0 k1 k2 k3 k5 "Exception.__new__") :=
  ⟨Str.ofString "PatternError", Str.ofString "PatternError", [.type "Exception"], [], [], false, none, none, some (.ref 67), none, some (.str (Str.ofString "PatternError") 273), some (.str (Str.ofString "PatternError") 281), some (.bool true), by kernel_rfl⟩
theorem exc_lk (n : Str) (h : n ∈ [Str.ofString "msg", Str.ofString "pattern", Str.ofString "pos", Str.ofString "lineno", Str.ofString "colno"]) : typeLookup (.type "Exception") n = pure none := by
  simp only [List.mem_cons, List.mem_nil_iff, or_false] at h
  rcases h with rfl | rfl | rfl | rfl | rfl <;> (rw [typeLookup_type, builtinLookup_eq_fast]; kernel_rfl)
/-- a namespace's object -/
noncomputable def NsO (o : Obj) (m : Str → Option Value) : Prop := ∃ es ep, o.data = .dict es ep ∧ StrKeys es ∧ UniqKeys es ∧ ∀ name, nsFind es name = m name
theorem NsO.at {h : Heap} {a : Addr} {o : Obj} {m : Str → Option Value} (x : NsO o m) (e : h.get? a = some o) : h.Ns1 a m := let ⟨es, ep, h1, h2, h3, h4⟩ := x; ⟨o, es, ep, e, h1, h2, h3, h4⟩
section
variable {prog : Program} {w : World} {A : Around} {E : Value → Shared → Prop} {h : Heap} {g : Array GenState} {d : Drawn} {t : Nat} {os : OsState} {x : Addr} {name : Str} {v : Value} {mN mA : Str → Option Value} {o : Obj}
variable {nm q : Str} {C N : Addr} {bs : List Value} {sn : List Str} {sub : List Value} {ab : Bool} {col : Option Bool} {dd : Option Addr} {k0 k1 k2 k3 k5 : Option Value} {newId : String}
theorem first_entry {B sa owner : String} {bm : List Value} (SF : StoreFacts B bm sa owner) {tk : Tok} {Q : Fin → Shared → Prop}
    (hC : h.get? C = some (excClassObj nm q C N bs bm true sn sub ab col dd k0 k1 k2 k3 k5 newId)) (hn : h.Ns N mN) (hna : mN name = none)
    (hB : typeLookup (.type B) name = pure none) (hx : h.get? x = some o) (hc : o.cls = .ref C) (hnc : ∀ c, o.data ≠ .cls c) (hdn : o.dict = none)
    (hq : ∀ h' tk', h'.get? x = some { o with dict := some h.objs.size } → h'.Ns1 h.objs.size (fun y => if y = name then some v else none) →
      (∀ b o, b ≠ x → h.get? b = some o → h'.get? b = some o) → Q (.done (.ret .none)) ⟨h', g, d, tk', os⟩) :
    wpAny (model prog w) A (Builtin.«object.__setattr__» ⟨[.ref x, .str name tk, v], []⟩) Q E ⟨h, g, d, t, os⟩ := by
  have hpass := SF.passes (.ref x)
  unfold Builtin.«object.__setattr__»
  repeat (first | rw [refuse_eq] | (rw [refuseLoop_ref, hpass]) | (with_reducible refine wpAny_loadPart_at hx ?_; rw [hc]) | with_reducible refine wpAny_mroOf_exc hC ?_ | (with_reducible refine wpAny_typeLookup_exc hC hn SF.mro hB ?_; rw [hna]) | wp_step)
  rw [hdn, if_neg (by simp [typeHasDict])]
  split
  · rename_i hcd
    cases hcd
  split
  · rename_i c hcd
    exact absurd hcd (hnc c)
  · have hx₁ : (h.push { cls := .type "dict", data := .dict #[] }).get? x = some o := Heap.get?_push_of_some _ hx
    have hxs : x ≠ h.objs.size := Nat.ne_of_lt (Heap.lt_size hx)
    refine wpAny_bind (wpAny_alloc' ?_)
    refine wpAny_bind (wpAny_update' hx₁ ?_)
    refine wpAny_pure ?_
    have hgd : ((h.push { cls := .type "dict", data := .dict #[] }).update x fun o => { cls := o.cls, dict := some h.objs.size, data := o.data, slots := o.slots }).get? h.objs.size
        = some { cls := .type "dict", data := .dict #[] } :=
      (Heap.get?_update_ne _ _ _ _ hxs.symm).trans (Heap.get?_push_at rfl rfl)
    have hnd : ((h.push { cls := .type "dict", data := .dict #[] }).update x fun o => { cls := o.cls, dict := some h.objs.size, data := o.data, slots := o.slots }).Ns h.objs.size (fun _ => none) :=
      ⟨_, #[], _, hgd, rfl, fun e he => absurd he (by simp), fun _ => rfl⟩
    show wpAny _ _ (storeInDict h.objs.size (.str name tk) name v) _ _ _
    unfold storeInDict newKeyGuard
    refine wpAny_bind (wpAny_pure (wpAny_bind (wpAny_nsSet1 (Heap.Ns1.of_empty hnd) fun h' hn' hs => ?_)))
    obtain ⟨oD, esD, epD, hoD, hdD, hcD⟩ := hn'.count (Within.cons name v Within.nil)
    refine wpAny_bind (wpAny_lookBehind hoD (by rw [hdD]; exact pastItsLine_dict (Nat.le_trans hcD (by rw [List.length_cons, List.length_nil, sizeLine_eq]; omega))) ?_)
    wp_walk
    refine hq h' _ ?_ hn' (fun b ob hbx hb => ?_)
    · refine (hs.2 x hxs).trans (Heap.get?_update_self _ hx₁ ?_)
      have hfr := (Heap.get?_some_iff.mp hx).2
      obtain ⟨oc, od, odt, osl⟩ := o
      cases odt <;> first | rfl | exact hfr
    · exact (hs.2 b (Nat.ne_of_lt (Heap.lt_size hb))).trans ((Heap.get?_update_ne _ _ _ _ hbx).trans (Heap.get?_push_of_some _ hb))
theorem first_call {B sa owner : String} {bm : List Value} (SF : StoreFacts B bm sa owner) {tk : Tok} {R : Result → Shared → Prop}
    (hC : h.get? C = some (excClassObj nm q C N bs bm true sn sub ab col dd k0 k1 k2 k3 k5 newId)) (hn : h.Ns N mN) (hna : mN name = none)
    (hB : typeLookup (.type B) name = pure none) (hx : h.get? x = some o) (hc : o.cls = .ref C) (hnc : ∀ c, o.data ≠ .cls c) (hdn : o.dict = none)
    (hq : ∀ h' tk', h'.get? x = some { o with dict := some h.objs.size } → h'.Ns1 h.objs.size (fun y => if y = name then some v else none) →
      (∀ b o, b ≠ x → h.get? b = some o → h'.get? b = some o) → R (.ok (.ret .none)) ⟨h', g, d, tk', os⟩) :
    codeAny (model prog w) A (.call (.builtin sa) ⟨[.ref x, .str name tk, v], []⟩) R ⟨h, g, d, t, os⟩ :=
  codeAny_call_builtin SF.slot.plain SF.entry (wpAny_check_sa SF hC hx hc (first_entry SF hC hn hna hB hx hc hnc hdn hq))
theorem first_attr {Q : Unit → Shared → Prop}
    (hC : h.get? C = some (excClassObj nm q C N bs excM true sn sub ab col dd k0 k1 k2 k3 k5 newId)) (hn : h.Ns N mN) (hns : mN "__setattr__" = none) (hna : mN name = none)
    (hB : typeLookup (.type "Exception") name = pure none) (hx : h.get? x = some o) (hc : o.cls = .ref C) (hnc : ∀ c, o.data ≠ .cls c) (hdn : o.dict = none)
    (hq : ∀ h' tk', h'.get? x = some { o with dict := some h.objs.size } → h'.Ns1 h.objs.size (fun y => if y = name then some v else none) →
      (∀ b o, b ≠ x → h.get? b = some o → h'.get? b = some o) → Q () ⟨h', g, d, tk', os⟩) :
    wpAny (model prog w) A (setAttr (.ref x) name v) Q E ⟨h, g, d, t, os⟩ := by
  have SF := F.store_Exception
  have f3 := SF.slot.bind (.ref x)
  unfold setAttr callSpecial? specialOf
  repeat (any_goals (first | assumption | (with_reducible refine wpAny_loadPart_at hx ?_; rw [hc]) | (with_reducible refine wpAny_typeLookup_exc hC hn SF.mro SF.slot.lookup ?_; rw [hns]) | wp_step))
  refine first_call SF hC hn hna hB hx hc hnc hdn (fun h' tk' I' hk hsame => ?_)
  repeat (any_goals (first | assumption | wp_step))
  exact hq h' tk' I' hk hsame
theorem load_x_entry {tk : Tok} {Q : Fin → Shared → Prop}
    (hC : h.get? C = some (excClassObj nm q C N bs excM true sn sub ab col dd k0 k1 k2 k3 k5 newId)) (hn : h.Ns N mN) (hna : mN name = none)
    (hB : typeLookup (.type "Exception") name = pure none) {dx : Addr} (hx : h.get? x = some o) (hc : o.cls = .ref C) (hnc : ∀ c, o.data ≠ .cls c) (hdx : o.dict = some dx) (hns : h.Ns1 dx mA) (hv : mA name = some v) (hq : Q (.done (.ret v)) ⟨h, g, d, t, os⟩) :
    wpAny (model prog w) A (Builtin.«object.__getattribute__» ⟨[.ref x, .str name tk], []⟩) Q E ⟨h, g, d, t, os⟩ := by
  unfold Builtin.«object.__getattribute__»
  repeat (first | (with_reducible refine wpAny_loadPart_at hx ?_; rw [hc]) | (with_reducible refine wpAny_typeLookup_exc hC hn F.excBase_Exception.mroIs hB ?_; rw [hna]) | wp_step)
  split
  · rename_i c hcd
    exact absurd hcd (hnc c)
  unfold instanceDict
  repeat (first | (with_reducible refine wpAny_loadPart_at hx ?_; rw [hc]) | with_reducible refine wpAny_loadPart_at hC ?_ | wp_step)
  rw [hdx]
  repeat (first | (with_reducible refine wpAny_nsGet hns.ns ?_; rw [hv]) | wp_step)
  exact hq
theorem check_x_ga {M : Model} {nameV : Value} {Q : Unit → Shared → Prop} (hC : h.get? C = some (excClassObj nm q C N bs excM true sn sub ab col dd k0 k1 k2 k3 k5 newId))
    (hx : h.get? x = some o) (hc : o.cls = .ref C) (hq : Q () ⟨h, g, d, t, os⟩) : wpAny M A (checkBuiltinCall "BaseException.__getattribute__" ⟨[.ref x, nameV], []⟩) Q E ⟨h, g, d, t, os⟩ := by
  have hk : builtinKind "BaseException.__getattribute__" = some .slot := by decide +kernel
  have hsplit : splitId "BaseException.__getattribute__" = some ("BaseException", "__getattribute__") := by decide +kernel
  have hcB : (Value.ref C :: excM).contains (.type "BaseException") = true := by rw [List.contains_cons, show excM.contains (.type "BaseException") = true from by decide +kernel, Bool.or_true]
  have ha := F.args_bexc_ga (.ref x) nameV
  simp only [checkBuiltinCall, hk, hsplit]
  refine wpAny_bind ?_
  · unfold isInstance
    repeat (first | (with_reducible refine wpAny_loadPart_at hx ?_; rw [hc]) | (with_reducible refine wpAny_isSubtype_exc hC ?_; rw [hcB]) | wp_step)
    exact hq
theorem load_x_call {tk : Tok} {R : Result → Shared → Prop}
    (hC : h.get? C = some (excClassObj nm q C N bs excM true sn sub ab col dd k0 k1 k2 k3 k5 newId)) (hn : h.Ns N mN) (hna : mN name = none)
    (hB : typeLookup (.type "Exception") name = pure none) {dx : Addr} (hx : h.get? x = some o) (hc : o.cls = .ref C) (hnc : ∀ c, o.data ≠ .cls c) (hdx : o.dict = some dx) (hns : h.Ns1 dx mA) (hv : mA name = some v) (hq : R (.ok (.ret v)) ⟨h, g, d, t, os⟩) :
    codeAny (model prog w) A (.call (.builtin "BaseException.__getattribute__") ⟨[.ref x, .str name tk], []⟩) R ⟨h, g, d, t, os⟩ :=
  codeAny_call_builtin F.attrBase_Exception.ga.plain F.entry_bexc_ga (check_x_ga hC hx hc (load_x_entry hC hn hna hB hx hc hnc hdx hns hv hq))
theorem load_x_by {tk : Tok} {fill expr : Bool} {Q : Value → Shared → Prop}
    (hC : h.get? C = some (excClassObj nm q C N bs excM true sn sub ab col dd k0 k1 k2 k3 k5 newId)) (hn : h.Ns N mN) (hng : mN "__getattribute__" = none) (hnh : mN "__getattr__" = none) (hna : mN name = none)
    (hB : typeLookup (.type "Exception") name = pure none) {dx : Addr} (hx : h.get? x = some o) (hc : o.cls = .ref C) (hnc : ∀ c, o.data ≠ .cls c) (hdx : o.dict = some dx) (hns : h.Ns1 dx mA) {iv : Int} {tv : Tok} (hv : mA name = some (.int iv tv)) (hq : Q (.int iv tv) ⟨h, g, d, t, os⟩) :
    wpAny (model prog w) A (getAttrBy (.ref x) (.str name tk) fill expr) Q E ⟨h, g, d, t, os⟩ := by
  have FB := F.attrBase_Exception
  have f3 := FB.ga.bind (.ref x)
  have hx0 : (expr && onTheHeap (Value.builtin "BaseException.__getattribute__")) = false := by cases expr <;> rfl
  have hx2 : (Value.builtin "BaseException.__getattribute__" == Value.builtin "object.__getattribute__") = false := by decide +kernel
  have hx1 : (onTheHeap (Value.ref C) && Value.builtin "BaseException.__getattribute__" == Value.builtin "object.__getattribute__") = false := by rw [hx2]; rfl
  repeat (any_goals (first | assumption | (with_reducible refine wpAny_loadPart_at hx ?_; rw [hc]) | (with_reducible refine wpAny_typeLookup_exc hC hn FB.mro FB.ga.lookup ?_; rw [hng]) | (with_reducible refine wpAny_typeLookup_exc hC hn FB.mro FB.noGetattr ?_; rw [hnh]) | wp_step))
  refine load_x_call hC hn hna hB hx hc hnc hdx hns hv ?_
  repeat (any_goals (first | assumption | wp_step))
theorem load_x_attr {expr : Bool} {Q : Value → Shared → Prop}
    (hC : h.get? C = some (excClassObj nm q C N bs excM true sn sub ab col dd k0 k1 k2 k3 k5 newId)) (hn : h.Ns N mN) (hng : mN "__getattribute__" = none) (hnh : mN "__getattr__" = none) (hna : mN name = none)
    (hB : typeLookup (.type "Exception") name = pure none) {dx : Addr} (hx : h.get? x = some o) (hc : o.cls = .ref C) (hnc : ∀ c, o.data ≠ .cls c) (hdx : o.dict = some dx) (hns : h.Ns1 dx mA) {iv : Int} {tv : Tok} (hv : mA name = some (.int iv tv)) (hq : Q (.int iv tv) ⟨h, g, d, t + 1, os⟩) :
    wpAny (model prog w) A (getAttr (.ref x) name expr) Q E ⟨h, g, d, t, os⟩ := by
  unfold getAttr
  repeat (any_goals (first | assumption | with_reducible apply load_x_by hC hn hng hnh hna hB hx hc hnc hdx hns hv | wp_step))
end
end Mine
end
section -- LSup
theorem Mine.rstLSup : True := by
  w_top off
  trivial
open PySem PySem.W PyProof PyProof.Rows PySem.Calls PySem.Builtin PySem.Builtin.Str PySem.StrLaws PySem.Builtin.ObjectAttr
set_option Elab.async false
set_option maxRecDepth 100000
set_option maxHeartbeats 1000000
namespace Mine
theorem slot_wd_get : Slot "wrapper_descriptor" "__get__" "wrapper_descriptor.__get__" :=
  .of (owner := "wrapper_descriptor") (n := "__get__") (by rw [typeLookup_type, builtinLookup_eq_fast]; kernel_rfl) (by decide +kernel) (by decide +kernel) (by decide +kernel)
    (by first | exact .inl (by decide +kernel) | exact .inr (by decide +kernel)) (by rw [isSubtype_type]; kernel_rfl)
theorem entry_wd_get : entryFor table "wrapper_descriptor.__get__" = some Builtin.«wrapper_descriptor.__get__» := entryFor_of_tree (by kernel_rfl)
theorem args_wd_get (a b c : Value) : argsOk "wrapper_descriptor.__get__" ⟨[a, b, c], []⟩ := by unfold argsOk; kernel_rfl
theorem type_xi : typeOf (.builtin "Exception.__init__") = pure (.type "wrapper_descriptor") := by show builtinType _ = _; rw [builtinType_eq_fast]; kernel_rfl
theorem own_xi : classOwn (.type "Exception") (Str.ofString "__init__") = pure (some (.builtin "Exception.__init__")) := by first | kernel_rfl | (unfold classOwn; kernel_rfl)
noncomputable abbrev mwO (x : Addr) : Obj := { cls := .type "method-wrapper", data := .fields #[.builtin "Exception.__init__", .ref x] }
theorem owner_xi : (kfb_private% "ownerAndName") "Exception.__init__" = ("Exception", "__init__") := by first | decide +kernel | kernel_rfl
theorem name_xi : (kfb_private% "nameAndClass") (.builtin "Exception.__init__") = pure (Str.ofString "__init__", Value.type "Exception") := by
  show pure (Str.ofString ((kfb_private% "ownerAndName") "Exception.__init__").2, Value.type ((kfb_private% "ownerAndName") "Exception.__init__").1) = _
  rw [owner_xi]
section
variable {prog : Program} {w : World} {M : Model} {A : Around} {E : Value → Shared → Prop} {h : Heap} {g : Array GenState} {d : Drawn} {t : Nat} {os : OsState} {x : Addr} {o : Obj}
variable {nm q : Str} {C N : Addr} {bs : List Value} {sn : List Str} {sub : List Value} {ab : Bool} {col : Option Bool} {dd : Option Addr} {k0 k1 k2 k3 k5 : Option Value} {newId : String}
theorem run_wd {P : Fin → Shared → Prop} (hC : h.get? C = some (excClassObj nm q C N bs excM true sn sub ab col dd k0 k1 k2 k3 k5 newId)) (hx : h.get? x = some o) (hc : o.cls = .ref C)
    (hq : P (.done (.ret (.ref h.objs.size))) ⟨h.push (mwO x), g, d, t, os⟩) :
    wpAny M A (Builtin.«wrapper_descriptor.__get__» ⟨[.builtin "Exception.__init__", .ref x, .ref C], []⟩) P E ⟨h, g, d, t, os⟩ := by
  have hcB : (Value.ref C :: excM).contains (.type "Exception") = true := by rw [List.contains_cons, show excM.contains (.type "Exception") = true from by decide +kernel, Bool.or_true]
  unfold Builtin.«wrapper_descriptor.__get__»
  refine wpAny_bind (wpAny_of_eq (a := (.builtin "Exception.__init__", some (.ref x), some (.ref C))) (by first | rfl | kernel_rfl) ?_)
  show wpAny M A (do (kfb_private% "checkInstance") (Value.builtin "Exception.__init__") (.ref x); ret (← newFields "method-wrapper" [.builtin "Exception.__init__", .ref x])) P E _
  refine wpAny_bind ?_
  refine wpAny_bind (wpAny_of_eq (a := (Str.ofString "__init__", .type "Exception")) name_xi ?_)
  unfold isInstance
  repeat (first | (with_reducible refine wpAny_loadPart_at hx ?_; rw [hc]) | (with_reducible refine wpAny_isSubtype_exc hC ?_; rw [hcB]) | wp_step)
  exact hq
theorem run_sga {so : Addr} {tk : Tok} {Q : Fin → Shared → Prop}
    (hso : h.get? so = some (ks_superObj C x C)) (hno : Looks (model prog w) h (opaqueClassAbove (.ref C)) none)
    (hC : h.get? C = some (excClassObj nm q C N bs excM true sn sub ab col dd k0 k1 k2 k3 k5 newId)) (hx : h.get? x = some o) (hc : o.cls = .ref C) (hxC : x ≠ C)
    (hq : Q (.done (.ret (.ref h.objs.size))) ⟨h.push (mwO x), g, d, t, os⟩) :
    wpAny (model prog w) A (Builtin.«super.__getattribute__» ⟨[.ref so, .str (Str.ofString "__init__") tk], []⟩) Q E ⟨h, g, d, t, os⟩ := by
  have hlk := slot_wd_get.lookup
  have hne : (Value.ref x == Value.ref C) = false := by simp [hxC]
  have hTf : (⟨h, g, d, t, os⟩ : Shared).TypeIs (.builtin "Exception.__init__") "wrapper_descriptor" := type_xi
  have hdt : (ks_superObj C x C).data = .fields #[.ref C, .ref x, .ref C] := rfl
  have f0 : (#[.ref C, .ref x, .ref C] : Array Value)[0]? = some (.ref C) := rfl
  have f1 : (#[.ref C, .ref x, .ref C] : Array Value)[1]? = some (.ref x) := rfl
  have f2 : (#[.ref C, .ref x, .ref C] : Array Value)[2]? = some (.ref C) := rfl
  have hn : (Str.ofString "__init__" == ("__class__" : Str)) = false := by decide +kernel
  have hl : ((Value.ref C :: excM).dropWhile (· != .ref C)).drop 1 = excM := by simp [List.dropWhile]
  unfold Builtin.«super.__getattribute__»
  repeat (first
    | (with_reducible refine wpAny_field hso hdt f0 ?_) | (with_reducible refine wpAny_field hso hdt f1 ?_) | (with_reducible refine wpAny_field hso hdt f2 ?_)
    | (with_reducible refine ks_wpAny_notOpaque hno ?_)
    | (with_reducible refine wpAny_mroOf_exc hC ?_; rw [hl])
    | (with_reducible refine wpAny_of_eq own_xi ?_)
    | (with_reducible refine wpAny_of_eq type_xi ?_)
    | (with_reducible refine wpAny_of_eq hlk ?_)
    | (with_reducible refine wpAny_call_entry slot_wd_get hTf entry_wd_get ?_ (args_wd_get _ _ _))
    | (with_reducible refine run_wd hC hx hc ?_)
    | (with_reducible refine ⟨_, rfl, ?_⟩)
    | (simp only [hn, hne, Bool.or_false, Bool.false_eq_true, if_false])
    | wp_step
    | dsimp only)
  all_goals exact hq
theorem get_sup {so : Addr} {pl : Sem Bool} {Q : Value × List Value → Shared → Prop}
    (hso : h.get? so = some (ks_superObj C x C)) (hno : Looks (model prog w) h (opaqueClassAbove (.ref C)) none)
    (hC : h.get? C = some (excClassObj nm q C N bs excM true sn sub ab col dd k0 k1 k2 k3 k5 newId)) (hx : h.get? x = some o) (hc : o.cls = .ref C) (hxC : x ≠ C)
    (hq : Q (.ref h.objs.size, []) ⟨h.push (mwO x), g, d, t + 1, os⟩) :
    wpAny (model prog w) A (getMethod (.ref so) (Str.ofString "__init__") pl) Q E ⟨h, g, d, t, os⟩ := by
  have hlk := F.ks_slot_super_ga.lookup
  have hcan := F.ks_canon_super_ga
  have hT : ∀ t', (⟨h, g, d, t', os⟩ : Shared).TypeIs (.ref so) "super" := fun _ => ⟨_, hso, rfl⟩
  unfold getMethod
  refine wpAny_bind (wpAny_specialOf (hT _) hlk ?_)
  show wpAny _ _ (if (Manifest.canonical "super.__getattribute__" != "object.__getattribute__") = true then _ else _) _ _ _
  rw [if_pos hcan]
  unfold getAttr getAttrBy
  refine wpAny_bind (wpAny_bind (wpAny_mkText (wpAny_holding (wpAny_bind (wpAny_typeOf (hT _) (wpAny_bind (wpAny_of_eq hlk ?_)))))))
  show wpAny _ _ (getAttrByItsOwn (.ref so) (.str (Str.ofString "__init__") t) (.type "super") (.builtin "super.__getattribute__") true false) _ _ _
  unfold getAttrByItsOwn hookBefore callGetattribute boundAndCalled
  refine wpAny_bind (wpAny_of_eq (show (if onTheHeap (.type "super") then typeLookup (.type "super") "__getattr__" else pure none) = pure none from rfl) ?_)
  refine wpAny_bind (wpAny_attempt (wpAny_holding ?_))
  show wpAny _ _ (bindSpecial (.builtin "super.__getattribute__") (.ref so) >>= _) _ _ _
  refine wpAny_bind (wpAny_of_eq (F.ks_slot_super_ga.bind _) ?_)
  refine wpAny_mono (Q := fun v s' => v = .ref h.objs.size ∧ s' = ⟨h.push (mwO x), g, d, t + 1, os⟩) (E := fun _ _ => False)
    (wpAny_call_entry F.ks_slot_super_ga (hT _) F.ks_entry_super_ga (run_sga hso hno hC hx hc hxC ⟨_, rfl, rfl, rfl⟩) (F.ks_gaArgs_super _ _)) (fun v s' hv => ?_) fun _ _ z => z.elim
  obtain ⟨rfl, rfl⟩ := hv
  exact wpAny_pure (wpAny_pure hq)
theorem check_mw {v : Value} {Q : Unit → Shared → Prop} (hC : h.get? C = some (excClassObj nm q C N bs excM true sn sub ab col dd k0 k1 k2 k3 k5 newId)) (hx : h.get? x = some o) (hc : o.cls = .ref C) (hq : Q () ⟨h, g, d, t, os⟩) :
    wpAny M A (checkBoundCall "Exception.__init__" ⟨[.ref x, v], []⟩) Q E ⟨h, g, d, t, os⟩ := by
  have XF := F.excBase_Exception
  have hshort := XF.noStar
  simp only [checkBoundCall, XF.initKind, XF.initRow]
  repeat (first | (with_reducible refine wpAny_loadPart_at hx ?_; rw [hc]) | with_reducible refine wpAny_loadPart_at hC ?_ | wp_step)
  exact hq
theorem call_mw {mw : Addr} {v : Value} {vs : Array Value} {Q : Value → Shared → Prop} (hm : h.get? mw = some (mwO x))
    (hC : h.get? C = some (excClassObj nm q C N bs excM true sn sub ab col dd k0 k1 k2 k3 k5 newId)) (hx : h.get? x = some o) (hc : o.cls = .ref C) (hd : o.data = .fields vs) {t0 : Addr} (h0 : vs[0]? = some (.ref t0))
    (hq : ∀ h', h'.get? x = some (Obj.mapFields (·.setIfInBounds 0 (.ref h.objs.size)) o) → h'.get? h.objs.size = some (tupO v) → (∀ b o, b ≠ x → h.get? b = some o → h'.get? b = some o) → Q .none ⟨h', g, d, t, os⟩) :
    wpAny (model prog w) A (call (.ref mw) [v]) Q E ⟨h, g, d, t, os⟩ := by
  refine wpAny_call (codeAny_of_tree ?_)
  show wpAny _ A.in1 (callAny (.ref mw) ⟨[v], []⟩) _ _ _
  simp only [callAny]
  refine wpAny_bind (wpAny_load hm ?_)
  simp only [show (Value.type "method-wrapper" == Value.type "method" || Value.type "method-wrapper" == Value.type "builtin_function_or_method" || Value.type "method-wrapper" == Value.type "method-wrapper") = true by decide, if_true]
  refine KFB.if_so (by decide) ?_
  refine wpAny_bind (check_mw hC hx hc ?_)
  refine wpAny_bind (wpAny_pure (wpAny_pure ?_))
  refine ⟨Code.quiet_builtin _ (by decide +kernel), codeAny_builtin F.excBase_Exception.initEntry ?_⟩
  show wpAny _ _ (Builtin.«BaseException.__init__» ⟨[.ref x, v], []⟩) _ _ _
  have hsz : 0 < vs.size := (Array.getElem?_eq_some_iff.mp h0).1
  have hx₁ := Heap.get?_push_of_some (h := h) (tupO v) hx
  show wpAny _ _ (do PySem.Builtin.BaseException.bexcPut (.ref x) 0 (← newTuple [v]); ret .none) _ _ _
  unfold newTuple
  refine wpAny_bind (wpAny_newObj_type ?_ (by size_fits))
  refine wpAny_bind ?_
  unfold PySem.Builtin.BaseException.bexcPut
  refine wpAny_bind (wpAny_field hx₁ hd h0 ?_)
  refine wpAny_bind (wpAny_setField hx₁ hd hsz ?_)
  refine wpAny_letGo ?_
  have hxs : x ≠ h.objs.size := Nat.ne_of_lt (Heap.lt_size hx)
  exact wpAny_pure (hq _ (Heap.get?_update_self _ hx₁ (Obj.isFreed_of_fields (Obj.data_mapFields hd _))) ((Heap.get?_update_other _ _ hxs).trans (Heap.get?_push_at rfl rfl)) fun b ob hb e => (Heap.get?_update_other _ _ (Ne.symm hb)).trans (Heap.get?_push_of_some _ e))
theorem callWith_mw {pos : Pos} {mw : Addr} {ex : Expr} {env : Env} {s : Shared} {Q : Value → Shared → Prop}
    (hpl : starEach [ex] env = [(false, eval ex env)])
    (hv : wpAny M A (spliced (backTo pos (starEach [ex] env))) (fun vs s₁ => s₁.heap.get? mw = some (mwO x) ∧ wpAny M A (call (.ref mw) ([] ++ vs)) Q E s₁) E s) : wpAny M A (callWith pos (.ref mw) [] (backTo pos (starEach [ex] env)) []) Q E s := by
  have hplain : (backTo pos (starEach [ex] env)).any (·.1) = false := by rw [hpl]; rfl
  unfold callWith
  rw [hpl] at hv hplain ⊢
  refine wpAny_bind (wpAny_holding (wpAny_mono (evalArgs_plain (Q := fun x₁ s₁ => s₁.heap.get? mw = some (mwO x) ∧ wpAny M A (call (.ref mw) ([] ++ x₁.pos) x₁.kw) Q E s₁) hv) (fun y s₁ h₁ => wpAny_bind (wpAny_standAt ?_)) fun _ _ x => x))
  obtain ⟨ho, hcall⟩ := h₁
  simp only [hplain, List.any_nil, Bool.or_false]
  refine wpAny_bind (m := keeperOf (.ref mw)) ?_
  unfold keeperOf
  refine wpAny_bind (wpAny_load ho ?_)
  simp only [show (Value.type "method-wrapper" != Value.type "method") = true by decide, show (Value.type "method-wrapper" == Value.type "builtin_function_or_method" || Value.type "method-wrapper" == Value.type "method-wrapper") = true by decide, if_true]
  refine wpAny_pure ?_
  exact wpAny_bind (wpAny_mono hcall (fun r s₂ hr => wpAny_bind (wpAny_holding (wpAny_point (wpAny_pure hr)))) fun _ _ x => x)
end
end Mine
end
section -- LLed
theorem Mine.rstLLed : True := by
  w_top off
  trivial
open PySem PySem.W PyProof PyProof.Rows PySem.Calls PySem.Builtin PySem.Builtin.Str PySem.StrLaws
set_option Elab.async false
set_option maxRecDepth 100000
set_option maxHeartbeats 1000000
namespace Mine
noncomputable def mOf : List (Str × Value) → Str → Option Value
  | [] => fun _ => none
  | (n, v) :: r => fun y => if y = n then some v else mOf r y
theorem mOf_within : ∀ al : List (Str × Value), Within (mOf al) (al.map (·.1))
  | [] => Within.nil
  | (n, v) :: r => Within.cons n v (mOf_within r)
/-- an instance of PatternError with its own names -/
structure PatO (d : Addr) (oe od : Obj) (al : List (Str × Value)) : Prop where
  cls : oe.cls = .ref 86
  data : ∃ vs t0, oe.data = .fields vs ∧ vs[0]? = some (.ref t0)
  dict : oe.dict = some d
  ns : NsO od (mOf al)
theorem PatO.no {d : Addr} {oe od : Obj} {al : List (Str × Value)} (x : PatO d oe od al) : ∀ c, oe.data ≠ .cls c := fun c e => by
  obtain ⟨vs, t0, h, _⟩ := x.data
  rw [h] at e; cases e
theorem ns1_obj {h : Heap} {a : Addr} {m : Str → Option Value} (x : h.Ns1 a m) : ∃ o, h.get? a = some o ∧ NsO o m := let ⟨o, es, ep, e, r⟩ := x; ⟨o, e, es, ep, r⟩
section
variable {prog : Program} {w : World} {A : Around} {E : Value → Shared → Prop} {s : Shared} {h₀ : Heap} {L : Addr} {m : Str → Option Value} {news led : List (Addr × Obj)} {e d : Addr} {oe od : Obj} {al : List (Str × Value)} {name : Str} {v : Value} {P : Params}
theorem pat_facts {h : Heap} (X : (Mine.hd.heap_39 P).In h) : ∃ nm q bs sn sub ab col dd k0 k1 k2 k3 k5 mN, h.get? 86 = some (excClassObj nm q 86 85 bs excM true sn sub ab col dd k0 k1 k2 k3 k5 "Exception.__new__") ∧ h.Ns 85 mN ∧
    (∀ n ∈ [Str.ofString "__setattr__", Str.ofString "__getattribute__", Str.ofString "__getattr__", Str.ofString "msg", Str.ofString "pattern", Str.ofString "pos", Str.ofString "lineno", Str.ofString "colno"], mN n = none) := by
  obtain ⟨nm, q, bs, sn, sub, ab, col, dd, k0, k1, k2, k3, k5, hl⟩ := pat_cls P
  exact ⟨nm, q, bs, sn, sub, ab, col, dd, k0, k1, k2, k3, k5, h.nsMap 85, X _ _ hl, .of_isNs (isNs_of_in X (pat_nsok P)), fun n hn => nsMap_none_of_in X (pat_nsok P) (pat_none P n hn)⟩
noncomputable abbrev patNames : List Str := [Str.ofString "msg", Str.ofString "pattern", Str.ofString "pos", Str.ofString "lineno", Str.ofString "colno"]
theorem pn {n : Str} (h : n ∈ patNames) : n ∈ [Str.ofString "__setattr__", Str.ofString "__getattribute__", Str.ofString "__getattr__", Str.ofString "msg", Str.ofString "pattern", Str.ofString "pos", Str.ofString "lineno", Str.ofString "colno"] := .tail _ (.tail _ (.tail _ h))
theorem set_first {t0 : Addr} {Q : Unit → Shared → Prop} (F : Fr h₀ L s.heap m) (X : (Mine.hd.heap_39 P).In h₀) (N : News h₀ L s.heap led) (me : (e, excO 86 t0) ∈ led) (ms : ∀ q ∈ news, q ∈ led) (hne : ∀ q ∈ news, q.1 ≠ e) (hn : name ∈ patNames)
    (k : ∀ d oe od h' tk, PatO d oe od [(name, v)] → d ≠ e → (∀ q ∈ news, q.1 ≠ d) → Fr h₀ L h' m → News h₀ L h' ((e, oe) :: (d, od) :: news) → Q () { s with heap := h', toks := tk }) :
    wpAny (model prog w) A (setAttr (.ref e) name v) Q E s := by
  obtain ⟨nm, q, bs, sn, sub, ab, col, dd, k0, k1, k2, k3, k5, mN, hC, hN, hno⟩ := pat_facts (X.keeps F.keep)
  obtain ⟨hp, gg, dr, tk, os⟩ := s
  have ne := N _ me
  refine first_attr hC hN (hno _ (.head _)) (hno _ (pn hn)) (exc_lk _ hn) ne.1 rfl nofun rfl fun h' tk' h1 h2 h3 => ?_
  obtain ⟨od, hod, hns⟩ := ns1_obj h2
  have up : ∀ b o, hp.get? b = some o → b ≠ e → h'.get? b = some o := fun b o q z => h3 b o z q
  have hsz : ∀ b o, hp.get? b = some o → b ≠ hp.objs.size := fun b o q => Nat.ne_of_lt (Heap.lt_size q)
  obtain ⟨oL, es, ep, hL, r⟩ := F.ns
  refine k hp.objs.size { excO 86 t0 with dict := some hp.objs.size } od h' tk' ⟨rfl, ⟨_, _, rfl, rfl⟩, rfl, hns⟩ (Ne.symm (hsz _ _ ne.1)) (fun q hq => hsz _ _ (N q (ms q hq)).1) ⟨⟨oL, es, ep, up _ _ hL (Ne.symm ne.2.1), r⟩, fun b o q => up b o (F.keep b o q) (fun z => by rw [z, ne.2.2] at q; cases q), F.above⟩ fun q hq => ?_
  rcases List.mem_cons.mp hq with rfl | hq
  · exact ⟨h1, ne.2⟩
  rcases List.mem_cons.mp hq with rfl | hq
  · exact ⟨hod, Ne.symm (hsz _ _ hL), next_is_new F⟩
  · have nq := N q (ms q hq)
    exact ⟨up _ _ nq.1 (hne q hq), nq.2⟩
theorem set_more {Q : Unit → Shared → Prop} (F : Fr h₀ L s.heap m) (X : (Mine.hd.heap_39 P).In h₀) (N : News h₀ L s.heap led) (I : PatO d oe od al) (hal : al.length ≤ 10) (me : (e, oe) ∈ led) (md : (d, od) ∈ led) (ms : ∀ q ∈ news, q ∈ led) (hde : d ≠ e) (hne : ∀ q ∈ news, q.1 ≠ e ∧ q.1 ≠ d) (hn : name ∈ patNames)
    (k : ∀ od' h' tk, PatO d oe od' ((name, v) :: al) → Fr h₀ L h' m → News h₀ L h' ((e, oe) :: (d, od') :: news) → Q () { s with heap := h', toks := tk }) :
    wpAny (model prog w) A (setAttr (.ref e) name v) Q E s := by
  obtain ⟨nm, q, bs, sn, sub, ab, col, dd, k0, k1, k2, k3, k5, mN, hC, hN, hno⟩ := pat_facts (X.keeps F.keep)
  obtain ⟨hp, gg, dr, tk, os⟩ := s
  have ne := N _ me
  have nd := N _ md
  have h86 : e ≠ 86 := fun z => by
    have h1 := ne.1
    rw [show (e, oe).1 = 86 from z, hC] at h1
    have h2 := I.cls
    cases h1
    cases h2
  refine store_attr PySem.F.store_Exception hC hN (hno _ (.head _)) (hno _ (pn hn)) (exc_lk _ hn) h86 ⟨oe, ne.1, I.cls, I.no, .inr ⟨d, I.dict, hde, I.ns.at nd.1⟩⟩ (fun h' tk' h1 h2 h3 => ?_) (mOf_within al) (by rw [List.length_map, sizeLine_eq]; omega)
  obtain ⟨oL, es, ep, hL, r⟩ := F.ns
  obtain ⟨o₁, hx₁, c1, c2, c3, c4⟩ := h3 oe ne.1
  have ho : o₁ = oe := by
    have c5 := c4 d I.dict
    have c6 := I.dict
    cases o₁; cases oe
    simp only at c1 c2 c3 c5 c6
    subst c1 c2 c3
    rw [c5, c6]
  rw [ho] at hx₁
  obtain ⟨o₂, hx₂, _, _, hd2⟩ := h1
  rw [hx₁] at hx₂
  cases hx₂
  rcases hd2 with ⟨z, _⟩ | ⟨d', hd', _, hns'⟩
  · rw [I.dict] at z; cases z
  rw [I.dict] at hd'
  cases hd'
  obtain ⟨od', hod', hns⟩ := ns1_obj hns'
  have up : ∀ b o, hp.get? b = some o → b ≠ e → b ≠ d → h'.get? b = some o := fun b o q z1 z2 => h2 b o z1 (fun o₀ dx q1 q2 => by
    have q1' : hp.get? e = some o₀ := q1
    have q3 : hp.get? e = some oe := ne.1
    rw [q1'] at q3
    cases q3
    rw [I.dict] at q2
    cases q2
    exact z2) q
  refine k od' h' tk' ⟨I.cls, I.data, I.dict, hns⟩ ⟨⟨oL, es, ep, up _ _ hL (Ne.symm ne.2.1) (Ne.symm nd.2.1), r⟩, fun b o q => up b o (F.keep b o q) (fun z => by rw [z, ne.2.2] at q; cases q) (fun z => by rw [z, nd.2.2] at q; cases q), F.above⟩ fun q hq => ?_
  rcases List.mem_cons.mp hq with rfl | hq
  · exact ⟨hx₁, ne.2⟩
  rcases List.mem_cons.mp hq with rfl | hq
  · exact ⟨hod', nd.2⟩
  · have nq := N q (ms q hq)
    exact ⟨up _ _ nq.1 (hne q hq).1 (hne q hq).2, nq.2⟩
theorem load_pat {expr : Bool} {Q : Value → Shared → Prop} {i : Int} {ti : Tok} (F : Fr h₀ L s.heap m) (X : (Mine.hd.heap_39 P).In h₀) (N : News h₀ L s.heap led) (I : PatO d oe od al) (me : (e, oe) ∈ led) (md : (d, od) ∈ led) (hn : name ∈ patNames)
    (hv : mOf al name = some (.int i ti)) (k : Q (.int i ti) { s with toks := s.toks + 1 }) : wpAny (model prog w) A (getAttr (.ref e) name expr) Q E s := by
  obtain ⟨nm, q, bs, sn, sub, ab, col, dd, k0, k1, k2, k3, k5, mN, hC, hN, hno⟩ := pat_facts (X.keeps F.keep)
  obtain ⟨hp, gg, dr, tk, os⟩ := s
  exact load_x_attr hC hN (hno _ (.tail _ (.head _))) (hno _ (.tail _ (.tail _ (.head _)))) (hno _ (pn hn)) (exc_lk _ hn) (N _ me).1 I.cls I.no I.dict (I.ns.at (N _ md).1) hv k
theorem pat_ne {h : Heap} (X : (Mine.hd.heap_39 P).In h) (h1 : h.get? e = some oe) (h2 : oe.cls = .ref 86) : e ≠ 86 := fun z => by
  obtain ⟨nm, q, bs, sn, sub, ab, col, dd, k0, k1, k2, k3, k5, mN, hC, _⟩ := pat_facts X
  rw [z, hC] at h1
  cases h1
  cases h2
theorem get_init {so : Addr} {pl : Sem Bool} {Q : Value × List Value → Shared → Prop} (F : Fr h₀ L s.heap m) (X : (Mine.hd.heap_39 P).In h₀) (N : News h₀ L s.heap led) (ho : nsIn (Mine.hd.heap_39 P) cStatics "thirdparty.any" = some none) (I : PatO d oe od al) (me : (e, oe) ∈ led) (mo : (so, ks_superObj 86 e 86) ∈ led)
    (k : ∀ mw h', Fr h₀ L h' m → News h₀ L h' ((mw, mwO e) :: led) → (∀ q ∈ led, q.1 < mw) → Q (.ref mw, []) { s with heap := h', toks := s.toks + 1 }) : wpAny (model prog w) A (getMethod (.ref so) (Str.ofString "__init__") pl) Q E s := by
  obtain ⟨nm, q, bs, sn, sub, ab, col, dd, k0, k1, k2, k3, k5, mN, hC, hN, hno⟩ := pat_facts (X.keeps F.keep)
  have hX := X.keeps F.keep
  obtain ⟨hp, gg, dr, tk, os⟩ := s
  refine get_sup (N _ mo).1 (looks_opaque hX ho) hC (N _ me).1 I.cls (pat_ne hX (N _ me).1 I.cls) ?_
  obtain ⟨F', N', l'⟩ := ks_newsPush (s := ⟨hp, gg, dr, tk, os⟩) (o := mwO e) F N rfl (Heap.get?_push_at rfl rfl) (fun b o e => Heap.get?_push_of_some _ e)
  exact k _ _ F' N' l'
theorem call_init {mw : Addr} {Q : Value → Shared → Prop} (F : Fr h₀ L s.heap m) (X : (Mine.hd.heap_39 P).In h₀) (N : News h₀ L s.heap led) (I : PatO d oe od al) (me : (e, oe) ∈ led) (md : (d, od) ∈ led) (mm : (mw, mwO e) ∈ led) (ms : ∀ q ∈ news, q ∈ led) (hde : d ≠ e) (hne : ∀ q ∈ news, q.1 ≠ e)
    (k : ∀ oe' h', PatO d oe' od al → Fr h₀ L h' m → News h₀ L h' ((e, oe') :: (d, od) :: news) → Q .none { s with heap := h' }) : wpAny (model prog w) A (call (.ref mw) [v]) Q E s := by
  obtain ⟨nm, q, bs, sn, sub, ab, col, dd, k0, k1, k2, k3, k5, mN, hC, hN, hno⟩ := pat_facts (X.keeps F.keep)
  obtain ⟨hp, gg, dr, tk, os⟩ := s
  obtain ⟨vs, t0, hd, h0⟩ := I.data
  have ne := N _ me
  have nd := N _ md
  refine call_mw (N _ mm).1 hC ne.1 I.cls hd h0 fun h' h1 h2 h3 => ?_
  have up : ∀ b o, hp.get? b = some o → b ≠ e → h'.get? b = some o := fun b o q z => h3 b o z q
  obtain ⟨oL, es, ep, hL, r⟩ := F.ns
  have hsz : 0 < vs.size := (Array.getElem?_eq_some_iff.mp h0).1
  refine k (Obj.mapFields (·.setIfInBounds 0 (.ref hp.objs.size)) oe) h' ⟨(Obj.cls_mapFields _ _).trans I.cls, ⟨_, hp.objs.size, Obj.data_mapFields hd _, by simp [hsz]⟩, ?_, I.ns⟩ ⟨⟨oL, es, ep, up _ _ hL (Ne.symm ne.2.1), r⟩, fun b o q => up b o (F.keep b o q) (fun z => by rw [z, ne.2.2] at q; cases q), F.above⟩ fun q hq => ?_
  · have := I.dict
    obtain ⟨c, dc, dt, sl⟩ := oe
    simp only at hd this
    subst hd this
    rfl
  · rcases List.mem_cons.mp hq with rfl | hq
    · exact ⟨h1, ne.2⟩
    rcases List.mem_cons.mp hq with rfl | hq
    · exact ⟨up _ _ nd.1 hde, nd.2⟩
    · have nq := N q (ms q hq)
      exact ⟨up _ _ nq.1 (hne q hq), nq.2⟩
end
end Mine
end
section -- LMod
theorem Mine.rstLMod : True := by
  w_top off
  trivial
open PySem PySem.W PyProof.Rows PySem.Calls PySem.Builtin PySem.Builtin.Str PyProof
set_option Elab.async false
set_option maxRecDepth 100000
set_option maxHeartbeats 4000000
namespace Mine
noncomputable abbrev PSt := List Value × Writer × List Nat
noncomputable abbrev PBody := Nat → PSt → Sem (ForInStep PSt)
/-- a turn of the format's loop at a literal piece -/
noncomputable def LitR (M : Model) (A : Around) (E : Value → Shared → Prop) (F : Str) (f : PBody) : Prop :=
  ∀ {l : List Nat} {x : Nat} {p : List Value} {w : Writer} {T : Str} {N c d : Nat} {r lit rest : List Nat} {Q : PSt → Shared → Prop} {s : Shared}, KPc.Good w T N → N ≤ 16777216 → List.span (fun a => a != 37) (c :: r) = (d :: lit, rest) → ((d :: lit).length == F.length) = false →
    (∀ w', KPc.Good w' (T ++ ⟨(d :: lit).toArray⟩) (N + (d :: lit).length) → wpAny M A (forIn l (p, w', rest) f) Q E s) → wpAny M A (forIn (x :: l) (p, w, c :: r) f) Q E s
noncomputable def StrR (M : Model) (A : Around) (E : Value → Shared → Prop) (f : PBody) : Prop :=
  ∀ {l : List Nat} {x : Nat} {p : List Value} {w : Writer} {T y : Str} {u : Tok} {N : Nat} {rest : List Nat} {Q : PSt → Shared → Prop} {s : Shared}, KPc.Good w T N → N ≤ 16777216 →
    (∀ w', KPc.Good w' (T ++ y) (N + y.length) → wpAny M A (forIn l (p, w', rest) f) Q E s) → wpAny M A (forIn (x :: l) (.str y u :: p, w, 37 :: 115 :: rest) f) Q E s
noncomputable def IntR (M : Model) (A : Around) (E : Value → Shared → Prop) (f : PBody) : Prop :=
  ∀ {l : List Nat} {x : Nat} {p : List Value} {w : Writer} {T : Str} {n : Int} {u : Tok} {N : Nat} {rest : List Nat} {Q : PSt → Shared → Prop} {s : Shared}, KPc.Good w T N → N ≤ 16777216 → 0 ≤ n → n < 10 ^ 10 →
    (∀ w' k, KPc.Good w' (T ++ Str.ofString (toString n)) (N + 10) → wpAny M A (forIn l (p, w', rest) f) Q E { s with toks := k }) → wpAny M A (forIn (x :: l) (.int n u :: p, w, 37 :: 100 :: rest) f) Q E s
noncomputable def EndR (M : Model) (A : Around) (E : Value → Shared → Prop) (f : PBody) : Prop :=
  ∀ {l : List Nat} {x : Nat} {p : List Value} {w : Writer} {T : Str} {N : Nat} {Q : PSt → Shared → Prop} {s : Shared}, KPc.Good w T N → N ≤ 16777216 → Q (p, w, []) s → wpAny M A (forIn (x :: l) (p, w, []) f) Q E s
theorem obj_if {c : Prop} [Decidable c] {y : Str} {t : Tok} : KPc.Obj (if c then some (.str y t) else none) y := by
  split
  · exact KPc.obj_some rfl
  · exact KPc.obj_none rfl
theorem wp_range {M : Model} {A : Around} {E : Value → Shared → Prop} {s : Shared} {β : Type} {n : Nat} {b : β} {f : Nat → β → Sem (ForInStep β)} {Q : β → Shared → Prop} (h : wpAny M A (forIn (List.range' 0 n 1) b f) Q E s) : wpAny M A (forIn [:n] b f) Q E s := by
  rw [KPc.range_list]
  exact h
theorem wp_entry {M : Model} {A : Around} {E : Value → Shared → Prop} {s : Shared} {F : Str} {t : Tok} {b : Addr} {Q : Fin → Shared → Prop} (h : wpAny M A (percentFormat (.str F t) F (.ref b)) Q E s) : wpAny M A («str.__mod__» ⟨[.str F t, .ref b], []⟩) Q E s := by
  rw [KPt.entry_is_r]
  exact h
theorem pct {prog : Program} {w : World} {A : Around} {E : Value → Shared → Prop} {s : Shared} {F : Str} {t : Tok} {b : Addr} {its : Array Value} {Q : Fin → Shared → Prop} (H : IsTup s.heap b its)
    (k : ∀ (f : PBody) (w' : Writer), KPc.Good w' Str.empty 0 → LitR (model prog w) A E F f → StrR (model prog w) A E f → IntR (model prog w) A E f → EndR (model prog w) A E f →
      wpAny (model prog w) A (forIn (List.range' 0 F.length 1) (its.toList, w', F.cps.toList) f) (fun r s' => r.1 = [] ∧ wpAny (model prog w) A (r.2.1.finish "str.__mod__") Q E s') E s) :
    wpAny (model prog w) A («str.__mod__» ⟨[.str F t, .ref b], []⟩) Q E s := by
  obtain ⟨kptO, kptG, kptC, kptN, kptD⟩ := H
  refine wp_entry ?_
  unfold Builtin.Str.percentFormat
  refine wpAny_bind (wpAny_isInstance (T := "tuple") ⟨kptO, kptG, kptC⟩ KPt.sub_tt ?_)
  refine wpAny_bind (KPt.asStr_ref kptG kptD ?_)
  refine wpAny_bind (KPt.fills_ref ⟨kptO, kptG, kptC⟩ ?_)
  intro bb
  kpc_if
  refine wpAny_bind (wpAny_seqItems kptG kptD ?_)
  refine wpAny_bind (wpAny_pure ?_)
  refine wpAny_bind ?_
  refine wp_range ?_
  refine wpAny_mono (KPc.start fun w' g => k _ w' g ?_ ?_ ?_ ?_) ?_ fun _ _ e => e
  · intro l x p w T N c d r lit rest Q s g hN e hne h
    refine KPc.turn ?_
    refine wpAny_ite (KPc.ite_no (KPc.short_good g hN) ?_)
    kpc_if
    rw [e]
    kpc_if
    refine wpAny_pure ?_
    exact KPc.after_add g rfl (KPc.obj_none (by rw [hne]; rfl)) h
  · intro l x p w T y u N rest Q s g hN h
    refine KPc.turn ?_
    refine wpAny_ite (KPc.ite_no (KPc.short_good g hN) ?_)
    repeat kpc_if
    refine wpAny_bind ?_
    refine wpAny_holding ?_
    repeat kpc_if
    kpt_conv
    refine wpAny_pure ?_
    refine wpAny_pure ?_
    exact KPc.after_str g (Nat.le_refl _) obj_if h
  · intro l x p w T n u N rest Q s g hN h0 h1 h
    refine KPc.turn ?_
    refine wpAny_ite (KPc.ite_no (KPc.short_good g hN) ?_)
    repeat kpc_if
    refine wpAny_bind ?_
    refine wpAny_holding ?_
    repeat kpc_if
    kpt_conv
    refine wpAny_pure ?_
    refine wpAny_pure ?_
    exact KPc.after_int g rfl (.inl rfl) rfl h0 h1 rfl (ite_self _) fun w' g' => h w' _ g'
  · intro l x p w T N Q s g hN h
    refine KPc.turn ?_
    refine wpAny_ite (KPc.ite_no (KPc.short_good g hN) ?_)
    kpc_if
    exact wpAny_pure h
  · intro r s' hr
    rw [hr.1]
    kpc_if
    exact hr.2
section
variable {prog : Program} {w : World} {A : Around} {E : Value → Shared → Prop} {s : Shared} {h₀ : Heap} {L b : Addr} {news : List (Addr × Obj)} {m : Str} {n n2 : Int} {t tm tn tn2 : Tok} {Q : Value → Shared → Prop}
theorem lit_eq {x y : Str} (h : x = y) (T : Str) : T ++ x = T ++ y := congrArg (T ++ ·) h
theorem emp_app (x : Str) : Str.empty ++ x = x := KPc.empty_app x
theorem mod1 (N : News h₀ L s.heap news) (hb : (b, ({ cls := .type "tuple", data := .seq #[.str m tm, .int n tn] } : Obj)) ∈ news) (hm : m.length ≤ 100) (h0 : 0 ≤ n) (h1 : n < 10 ^ 10)
    (k : ∀ z t' tk, z.length ≤ 300 → Q (.str z t') { s with toks := tk }) : wpAny (model prog w) A (binaryOp .Mod (.str (Str.ofString "%s at position %d") t) (.ref b)) Q E s := by
  refine' KPt.mod_tuple (T := Str.empty ++ m ++ Str.ofString " at position " ++ Str.ofString (toString n)) ?kptN ?kptb ?kptF ?kptm ?_
  case kptN => exact N
  case kptb => exact hb
  case kptF => kpt_eq
  case kptm =>
    refine KPt.meets_tup ?_
    intro prog w A s Q E H hQ
    refine pct H ?_
    intro f w0 g0 fl fs fi fe
    refine fs g0 (Nat.zero_le _) ?_
    intro w1 g1
    refine fl g1 (by omega) rfl rfl ?_
    intro w2 g2
    have e2 := Nat.add_le_add (Nat.add_le_add_left hm 0) (Nat.le_refl 13)
    refine fi g2 (Nat.le_trans e2 (by decide)) h0 h1 ?_
    intro w3 k3 g3
    refine fe g3 (Nat.le_trans (Nat.add_le_add_right e2 10) (by decide)) ⟨rfl, ?_⟩
    exact KPc.finish_ok g3 (Nat.le_trans (Nat.add_le_add_right e2 10) (by decide)) rfl fun t' k => hQ t' k
  · intro t' tk
    refine k _ t' tk ?_
    have := KT.len_num h0 h1
    rw [emp_app, len_app, len_app, show (Str.ofString " at position ").length = 13 from by decide +kernel]
    omega
theorem mod2 (N : News h₀ L s.heap news) (hb : (b, ({ cls := .type "tuple", data := .seq #[.str m tm, .int n tn, .int n2 tn2] } : Obj)) ∈ news) (hm : m.length ≤ 300) (h0 : 0 ≤ n) (h1 : n < 10 ^ 10) (h2 : 0 ≤ n2) (h3 : n2 < 10 ^ 10)
    (k : ∀ z t' tk, z.length ≤ 500 → Q (.str z t') { s with toks := tk }) : wpAny (model prog w) A (binaryOp .Mod (.str (Str.ofString "%s (line %d, column %d)") t) (.ref b)) Q E s := by
  refine' KPt.mod_tuple (T := Str.empty ++ m ++ Str.ofString " (line " ++ Str.ofString (toString n) ++ Str.ofString ", column " ++ Str.ofString (toString n2) ++ Str.ofString ")") ?kptN ?kptb ?kptF ?kptm ?_
  case kptN => exact N
  case kptb => exact hb
  case kptF => kpt_eq
  case kptm =>
    refine KPt.meets_tup ?_
    intro prog w A s Q E H hQ
    refine pct H ?_
    intro f w0 g0 fl fs fi fe
    refine fs g0 (Nat.zero_le _) ?_
    intro w1 g1
    refine fl g1 (by omega) rfl rfl ?_
    intro w2 g2
    have e2 := Nat.add_le_add (Nat.add_le_add_left hm 0) (Nat.le_refl 7)
    refine fi g2 (Nat.le_trans e2 (by decide)) h0 h1 ?_
    intro w3 k3 g3
    refine fl g3 (Nat.le_trans (Nat.add_le_add_right e2 10) (by decide)) rfl rfl ?_
    intro w4 g4
    refine fi g4 (Nat.le_trans (Nat.add_le_add_right e2 19) (by decide)) h2 h3 ?_
    intro w5 k5 g5
    refine fl g5 (Nat.le_trans (Nat.add_le_add_right e2 29) (by decide)) rfl rfl ?_
    intro w6 g6
    refine fe g6 (Nat.le_trans (Nat.add_le_add_right e2 30) (by decide)) ⟨rfl, ?_⟩
    exact KPc.finish_ok g6 (Nat.le_trans (Nat.add_le_add_right e2 30) (by decide)) rfl fun t' k => hQ t' k
  · intro t' tk
    refine k _ t' tk ?_
    have := KT.len_num h0 h1
    have := KT.len_num h2 h3
    rw [emp_app, len_app, len_app, len_app, len_app, len_app, show (Str.ofString " (line ").length = 7 from by decide +kernel, lit5, lit3]
    omega
end
end Mine
end
section -- MTab
theorem Mine.rstMTab : True := by
  w_top off
  trivial
set_option Elab.async false
namespace Mine
/-- the first k signs are the last k of the first i + 1 -/
noncomputable def bdr (c : Nat → Nat) (i k : Nat) : Prop := ∃ d, 0 < d ∧ d + k = i + 1 ∧ ∀ j, j < k → c j = c (d + j)
open Classical in
noncomputable def bdFrom (c : Nat → Nat) (i : Nat) : Nat → Nat
  | 0 => 0
  | k + 1 => if bdr c i (k + 1) then k + 1 else bdFrom c i k
noncomputable def bd (c : Nat → Nat) (i : Nat) : Nat := bdFrom c i i
theorem bdr_zero (c : Nat → Nat) (i : Nat) : bdr c i 0 := ⟨i + 1, Nat.succ_pos _, rfl, fun _ h => absurd h (Nat.not_lt_zero _)⟩
theorem bdr_le {c : Nat → Nat} {i k : Nat} (h : bdr c i k) : k ≤ i := by
  obtain ⟨d, h1, h2, _⟩ := h
  omega
theorem bdFrom_is (c : Nat → Nat) (i : Nat) : ∀ k, bdr c i (bdFrom c i k) ∧ bdFrom c i k ≤ k ∧ ∀ j, j ≤ k → bdr c i j → j ≤ bdFrom c i k
  | 0 => ⟨bdr_zero c i, Nat.le_refl _, fun j h _ => h⟩
  | k + 1 => by
    obtain ⟨h1, h2, h3⟩ := bdFrom_is c i k
    unfold bdFrom
    split
    · rename_i h
      exact ⟨h, Nat.le_refl _, fun j hj _ => hj⟩
    · rename_i h
      refine ⟨h1, Nat.le_succ_of_le h2, fun j hj hb => ?_⟩
      rcases Nat.lt_or_eq_of_le hj with e | e
      · exact h3 j (Nat.le_of_lt_succ e) hb
      · rw [e] at hb; exact absurd hb h
theorem bd_is (c : Nat → Nat) (i : Nat) : bdr c i (bd c i) := (bdFrom_is c i i).1
theorem bd_le (c : Nat → Nat) (i : Nat) : bd c i ≤ i := (bdFrom_is c i i).2.1
theorem bd_max {c : Nat → Nat} {i k : Nat} (h : bdr c i k) : k ≤ bd c i := (bdFrom_is c i i).2.2 k (bdr_le h) h
theorem bd_eq {c : Nat → Nat} {i k : Nat} (h : bdr c i k) (hm : ∀ j, bdr c i j → j ≤ k) : bd c i = k := Nat.le_antisymm (hm _ (bd_is c i)) (bd_max h)
/-- what holds at the head of the inner loop -/
noncomputable def IW (c : Nat → Nat) (i x : Nat) : Prop := bdr c (i - 1) x ∧ ∀ k, bdr c (i - 1) k → x < k → c k ≠ c i
theorem IW.start {c : Nat → Nat} {i : Nat} : IW c i (bd c (i - 1)) := ⟨bd_is _ _, fun _ h hk => absurd (bd_max h) (Nat.not_le_of_lt hk)⟩
theorem bdr_up {c : Nat → Nat} {i k : Nat} : bdr c (i + 1) (k + 1) ↔ bdr c i k ∧ c k = c (i + 1) := by
  constructor
  · rintro ⟨d, h0, h1, h2⟩
    have h1' : d + k = i + 1 := Nat.succ.inj h1
    exact ⟨⟨d, h0, h1', fun j hj => h2 j (Nat.lt_succ_of_lt hj)⟩, h1' ▸ h2 k (Nat.lt_succ_self k)⟩
  · rintro ⟨⟨d, h0, h1, h2⟩, h3⟩
    refine ⟨d, h0, congrArg Nat.succ h1, fun j hj => ?_⟩
    rcases Nat.lt_or_eq_of_le (Nat.le_of_lt_succ hj) with e | e
    · exact h2 j e
    · rw [e, h1]; exact h3
theorem bdr_succ {c : Nat → Nat} {i k : Nat} (hi : 1 ≤ i) : bdr c i (k + 1) ↔ bdr c (i - 1) k ∧ c k = c i := by
  cases i with
  | zero => cases hi
  | succ i => exact bdr_up
theorem IW.hit {c : Nat → Nat} {i x : Nat} (hi : 1 ≤ i) (h : IW c i x) (e : c i = c x) : bd c i = x + 1 := by
  refine bd_eq ((bdr_succ hi).2 ⟨h.1, e.symm⟩) fun j hj => ?_
  cases j with
  | zero => exact Nat.zero_le _
  | succ j =>
    obtain ⟨h1, h2⟩ := (bdr_succ hi).1 hj
    rcases Nat.lt_or_ge x j with hlt | hge
    · exact absurd h2 (h.2 j h1 hlt)
    · exact Nat.succ_le_succ hge
theorem IW.zero {c : Nat → Nat} {i : Nat} (hi : 1 ≤ i) (h : IW c i 0) (e : c i ≠ c 0) : bd c i = 0 := by
  refine bd_eq (bdr_zero c i) fun j hj => ?_
  cases j with
  | zero => exact Nat.le_refl _
  | succ j =>
    obtain ⟨h1, h2⟩ := (bdr_succ hi).1 hj
    rcases Nat.eq_zero_or_pos j with hz | hp
    · rw [hz] at h2; exact absurd h2.symm e
    · exact absurd h2 (h.2 j h1 hp)
/-- a border of a border -/
theorem bdr_trans {c : Nat → Nat} {i x k : Nat} (h : bdr c i x) (hx : 1 ≤ x) (hk : bdr c (x - 1) k) : bdr c i k := by
  obtain ⟨d, h0, h1, h2⟩ := h
  obtain ⟨e, g0, g1, g2⟩ := hk
  rw [Nat.sub_add_cancel hx] at g1
  refine ⟨d + e, Nat.add_pos_left h0 _, by rw [Nat.add_assoc, g1, h1], fun j hj => ?_⟩
  rw [g2 j hj, h2 (e + j) (g1 ▸ Nat.add_lt_add_left hj e), Nat.add_assoc]
theorem bdr_less {c : Nat → Nat} {i x k : Nat} (h : bdr c i x) (hk : bdr c i k) (hlt : k < x) : bdr c (x - 1) k := by
  obtain ⟨d, h0, h1, h2⟩ := h
  obtain ⟨e, g0, g1, g2⟩ := hk
  obtain ⟨q, hq⟩ := Nat.exists_eq_add_of_lt hlt
  have hx : q + 1 + k = x := by omega
  have he : e = d + (q + 1) := by omega
  refine ⟨q + 1, Nat.succ_pos q, by rw [hx, Nat.sub_add_cancel (Nat.lt_of_le_of_lt (Nat.zero_le k) hlt)], fun j hj => ?_⟩
  rw [g2 j hj, h2 (q + 1 + j) (hx ▸ Nat.add_lt_add_left hj _), he, Nat.add_assoc]
theorem IW.back {c : Nat → Nat} {i x : Nat} (h : IW c i x) (hx : 1 ≤ x) (e : c i ≠ c x) : IW c i (bd c (x - 1)) := by
  refine ⟨bdr_trans h.1 hx (bd_is _ _), fun k hk hlt => ?_⟩
  rcases Nat.lt_trichotomy k x with h1 | h1 | h1
  · exact absurd (bd_max (bdr_less h.1 hk h1)) (Nat.not_le_of_lt hlt)
  · rw [h1]; exact fun z => e z.symm
  · exact h.2 k hk h1
noncomputable def tabN (c : Nat → Nat) (n k : Nat) : List Int := (List.range n).map fun j => if j < k then (bd c j : Int) else 0
theorem tabN_length (c : Nat → Nat) (n k : Nat) : (tabN c n k).length = n := by simp [tabN]
theorem tabN_get {c : Nat → Nat} {n k j : Nat} (hj : j < k) (hn : j < n) : (tabN c n k).getD j 0 = (bd c j : Int) := by
  simp [tabN, List.getD, hj, hn]
theorem tabN_one (c : Nat → Nat) (n : Nat) : tabN c n 1 = List.replicate n 0 := by
  unfold tabN
  apply List.ext_getElem
  · simp
  · intro j h1 h2
    simp
    intro hj
    subst hj
    exact Nat.le_zero.mp (bd_le c 0)
theorem tabN_set {c : Nat → Nat} {n k : Nat} : (tabN c n k).set k (bd c k : Int) = tabN c n (k + 1) := by
  apply List.ext_getElem
  · simp [tabN]
  · intro j h1 h2
    simp only [tabN, List.getElem_set, List.getElem_map, List.getElem_range]
    by_cases e : k = j
    · subst e
      simp
    · rw [if_neg e]
      by_cases h : j < k
      · rw [if_pos h, if_pos (Nat.lt_succ_of_lt h)]
      · rw [if_neg h, if_neg (fun h2 => (Nat.lt_or_eq_of_le (Nat.le_of_lt_succ h2)).elim h fun h3 => e h3.symm)]
end Mine
end
section -- LSetI
theorem Mine.rstLSetI : True := by
  w_top off
  trivial
open PySem PySem.W PyProof PyProof.Rows PySem.Calls PySem.Builtin PySem.Builtin.Str PySem.StrLaws
set_option Elab.async false
set_option maxRecDepth 100000
set_option maxHeartbeats 1000000
namespace Mine
section
variable {prog : Program} {w : World} {A : Around} {E : Value → Shared → Prop} {s : Shared} {g : Heap} {L D : Addr} {news led : List (Addr × Obj)} {Q : Unit → Shared → Prop} {vs : List Value} {n : Nat} {ns : List Int} {m : Str → Option Value} {t tv : Tok} {z : Int} {k : Nat}
theorem ints_set : ∀ {vs : List Value} {ns : List Int} {k : Nat}, IntsAre vs ns → IntsAre (vs.set k (.int z tv)) (ns.set k z)
  | _, _, _, .nil => .nil
  | _, _, 0, .cons a t r => .cons z tv r
  | _, _, k + 1, .cons a t r => .cons a t (ints_set r)
theorem set_raw {l : Addr} {items : Array Value} {k : Int} {t : Tok} {v : Value} {Q : Unit → Shared → Prop} (hl : s.heap.IsList l items)
    (h0 : 0 ≤ k) (hfit : k < 2 ^ 63) (hn : k < items.size)
    (hQ : Q () { s with heap := s.heap.update l (Obj.mapSeq (·.setIfInBounds k.toNat v)) }) :
    wpAny (model prog w) A (setItem (.ref l) (.int k t) v) Q E s := by
  obtain ⟨o, ho, hc, ne, hd⟩ := id hl
  unfold setItem
  try with_reducible refine wpAny_holding ?_
  first | refine wpAny_bind (wpAny_pure ?_) | skip
  refine wpAny_bind (wpAny_sequenceKey hl.typeIs (by decide) ?_)
  refine wpAny_bind (wpAny_callSpecial?_slot (name := Str.ofString "__setitem__") hl.typeIs slot_list_setitem
    (wpAny_call_entry slot_list_setitem hl.typeIs entry_list_setitem ?_ (args_list_setitem _ _ _)))
  show wpAny _ _ (Builtin.List.listSubscript? (.int k t) >>= _) _ _ s
  refine wpAny_bind (wpAny_listSubscript_int (fitsIndex_of h0 hfit) ?_)
  clear hfit
  obtain ⟨j, rfl⟩ := Int.eq_ofNat_of_zero_le h0
  have hj : j < items.size := by omega
  have hx' : items[j]? = some items[j] := Array.getElem?_eq_getElem hj
  show wpAny _ _ ((seqItemAt l j >>= fun r => pure (r.map (j, ·))) >>= _) _ _ s
  refine wpAny_bind (wpAny_bind (wpAny_seqItemAt ho hd (wpAny_pure ?_)))
  rw [hx']
  show wpAny _ _ (setSeqItemAt l j v >>= _) _ _ s
  refine wpAny_bind (wpAny_setSeqItemAt ho hd ?_)
  first
    | exact wpAny_bind (wpAny_pure (wpAny_pure ⟨.none, rfl, wpAny_pure hQ⟩))
    | exact wpAny_pure ⟨.none, rfl, wpAny_pure hQ⟩
theorem set_list {l : Addr} {v : Value} {k : Nat} (ho : s.heap.get? l = some (lsO vs n)) (hn : k < vs.length) (hfit : k < 2 ^ 62)
    (hQ : ∀ h' n', h'.get? l = some (lsO (vs.set k v) n') → Heap.SameBut l s.heap h' → Q () { s with heap := h' }) :
    wpAny (model prog w) A (setItem (.ref l) (.int k t) v) Q E s := by
  refine set_raw (items := vs.toArray) ⟨_, ho, rfl, _, rfl⟩ (by omega) (by omega) (by simpa using hn) ?_
  obtain ⟨n', hd'⟩ := Obj.data_mapSeq (o := lsO vs n) rfl (·.setIfInBounds k v)
  refine hQ _ n' ((Heap.get?_update_self _ ho (Obj.isFreed_of_seq hd')).trans ?_) (Heap.SameBut.update ..)
  have e : (vs.set k v).toArray = vs.toArray.setIfInBounds k v := by simp
  have h1 : (Obj.mapSeq (·.setIfInBounds k v) (lsO vs n)).cls = .type "list" := Obj.cls_mapSeq ..
  have h2 : (Obj.mapSeq (·.setIfInBounds k v) (lsO vs n)).dict = none := rfl
  have h3 : (Obj.mapSeq (·.setIfInBounds k v) (lsO vs n)).slots = #[] := rfl
  show some (Obj.mapSeq (·.setIfInBounds k v) (lsO vs n)) = _
  unfold lsO
  rw [e]
  generalize Obj.mapSeq (·.setIfInBounds k v) (lsO vs n) = o at hd' h1 h2 h3 ⊢
  obtain ⟨a, b, c, d⟩ := o
  simp only at hd' h1 h2 h3
  subst hd' h1 h2 h3
  rfl
theorem set_led (F : Fr g L s.heap m) (N : News g L s.heap ((D, lsO vs n) :: led)) (I : IntsAre vs ns) (hne : ∀ q ∈ led, q.1 ≠ D) (hk : k < ns.length) (hfit : k < 2 ^ 62)
    (c : ∀ h' n', Fr g L h' m → News g L h' ((D, lsO (vs.set k (.int z tv)) n') :: led) → IntsAre (vs.set k (.int z tv)) (ns.set k z) → Q () { s with heap := h' }) :
    wpAny (model prog w) A (setItem (.ref D) (.int k t) (.int z tv)) Q E s := by
  have nd := N _ (.head _)
  refine set_list nd.1 (by rw [I.length]; exact hk) hfit fun h' n' e sb => ?_
  obtain ⟨⟨oL, es, ep, hL, r⟩, hkp, hab⟩ := F
  refine c h' n' ⟨⟨oL, es, ep, (sb.2 L (Ne.symm nd.2.1)).trans hL, r⟩, fun b o q => (sb.2 b (fun z => by rw [z, nd.2.2] at q; cases q)).trans (hkp b o q), hab⟩ (fun q hq => ?_) (ints_set I)
  rcases List.mem_cons.mp hq with rfl | hq
  · exact ⟨e, nd.2⟩
  · have nq := N q (.tail _ hq)
    exact ⟨(sb.2 _ (hne q hq)).trans nq.1, nq.2⟩
end
end Mine
end
section -- MSl
theorem Mine.rstMSl : True := by
  w_top off
  trivial
open PySem PySem.W PyProof PyProof.Rows PySem.Calls PySem.Builtin PySem.Builtin.Str PySem.StrLaws
set_option Elab.async false
set_option maxRecDepth 100000
namespace Mine
theorem ind_clip {n : Nat} {i : Int} {j : Int} (hi : 0 ≤ i) (h : (n : Int) ≤ j) : strSliceIndices (some i) (some j) 1 n = strSliceIndices (some i) (some (n : Int)) 1 n := by
  have h0 : ¬ i < 0 := by omega
  have h1 : ¬ ((n : Int) < 0) := by omega
  have h2 : ¬ j < 0 := by omega
  have h3 : (1 : Int) > 0 := by decide
  simp only [strSliceIndices, h0, h1, h2, h3, if_false, if_true, Int.min_eq_right h, Int.min_self]
theorem slice_clip {x : Str} {i j : Int} (hi : 0 ≤ i) (h : (x.length : Int) ≤ j) : Txt.slice x (some i) (some j) = Txt.slice x (some i) (some (x.length : Int)) := by
  unfold Txt.slice
  rw [ind_clip hi h]
/-- a slice from a place of the text: how many there are -/
theorem slice_any {x : Str} {i j : Nat} (h0 : i ≤ x.length) (h1 : i ≤ j) : Txt.slice x (some (i : Int)) (some (j : Int)) = ⟨((x.cps.toList.drop i).take (j - i)).toArray⟩ := by
  by_cases h : j ≤ x.length
  · rw [slice_nat (by omega) (by omega) (by omega)]
    have e : ((j : Int) - i).toNat = j - i := by omega
    rw [e, Int.toNat_natCast]
  · rw [slice_clip (by omega) (by omega), slice_nat (by omega) (by omega) (by omega)]
    have e : ((x.length : Int) - i).toNat = x.length - i := by omega
    rw [e, Int.toNat_natCast]
    have l1 : (x.cps.toList.drop i).length = x.length - i := by simp [Str.length]
    rw [List.take_of_length_le (by omega), List.take_of_length_le (by omega)]
theorem slice_any_len {x : Str} {i j : Nat} (h0 : i ≤ x.length) (h1 : i ≤ j) : (Txt.slice x (some (i : Int)) (some (j : Int))).length = min j x.length - i := by
  rw [slice_any h0 h1]
  show ((x.cps.toList.drop i).take (j - i)).length = _
  rw [List.length_take, List.length_drop, Array.length_toList, Nat.sub_min_sub_right]
  rfl
theorem agetD (a : Array Nat) (k : Nat) : a.getD k 0 = (a.toList[k]?).getD 0 := by
  rw [Array.getD_eq_getD_getElem?, Array.getElem?_toList]
end Mine
end
section -- LSortK
theorem Mine.rstLSortK : True := by
  w_top off
  trivial
open PySem PySem.W PyProof PyProof.Rows PySem.Calls
set_option Elab.async false
set_option maxRecDepth 100000
set_option maxHeartbeats 2000000
set_option linter.unusedVariables false
namespace Mine
/-- a key's call: a text comes back -/
noncomputable def KstEnd (h₀ : Heap) (L : Addr) (m : Str → Option Value) (need : List (Addr × Obj)) (k : Str) (s₁ : Shared) (v : Value) (s₂ : Shared) : Prop :=
  ∃ h' tk t', s₂ = { s₁ with heap := h', toks := tk } ∧ v = .str k t' ∧ Fr h₀ L h' m ∧ News h₀ L h' need
noncomputable def KstOut (kz : List Str) (vs out : List Value) : Prop :=
  ∃ ps : List (Str × Value), ps.Perm (kz.zip vs) ∧ out = ps.map Prod.snd ∧ ps.Pairwise (fun p q => ¬ q.1.cps.toList < p.1.cps.toList)
theorem kst_snoc {n : Str} {t : Tok} : ∀ {vs : List Value} {ns : List Str}, StrsAre vs ns → StrsAre (vs ++ [.str n t]) (ns ++ [n])
  | _, _, .nil => .cons n t .nil
  | _, _, .cons n' t' h => .cons n' t' (kst_snoc h)
theorem strs_len : ∀ {vs : List Value} {ns : List Str}, StrsAre vs ns → vs.length = ns.length
  | _, _, .nil => rfl
  | _, _, .cons _ _ h => by rw [List.length_cons, List.length_cons, strs_len h]
theorem kst_out {keys : Array Value} {vs : List Value} {kz : List Str} (hk : StrsAre keys.toList kz) {xs : Array Keyed} (hp : xs.Perm (keys.zip vs.toArray)) (hs : SortedToK strKind xs xs.size) :
    KstOut kz vs (xs.map (·.2)).toList := by
  have hl : xs.toList.Perm (keys.toList.zip vs) := by rw [← ksk_zip]; exact Array.perm_iff_toList_perm.mp hp
  have h1 : (xs.toList.map (fun p : Keyed => (PyProof.Rows.strOf p.1, p.2))).Perm (kz.zip vs) := by
    have e2 : (keys.toList.zip vs).map (fun p : Keyed => (PyProof.Rows.strOf p.1, p.2)) = kz.zip vs := by
      rw [← hk.strs, List.zip_map_left]
      exact List.map_congr_left fun ⟨x, y⟩ _ => rfl
    rw [← e2]
    exact hl.map _
  refine ⟨_, h1, ?_, ?_⟩
  · rw [Array.toList_map, List.map_map]
    rfl
  · rw [List.pairwise_iff_getElem]
    intro i j hi hj hij
    have hi' : i < xs.size := by simpa using hi
    have hj' : j < xs.size := by simpa using hj
    have q := hs i j (Nat.le_of_lt hij) hj'
    have mem : ∀ p ∈ xs.toList, ∃ x t, p.1 = .str x t := fun p hp' => hk.all _ (List.of_mem_zip (show (p.1, p.2) ∈ _ from hl.mem_iff.mp hp')).1
    obtain ⟨x, t, ex⟩ := mem xs[i] (by simp)
    obtain ⟨y, u, ey⟩ := mem xs[j] (by simp)
    rw [KK_str hi' (x := x) (t := t) (q := xs[i].2) (Prod.ext ex rfl), KK_str hj' (x := y) (t := u) (q := xs[j].2) (Prod.ext ey rfl)] at q
    change decide (y.cps.toList < x.cps.toList) = false at q
    simp only [List.getElem_map, Array.getElem_toList]
    rw [show PyProof.Rows.strOf xs[i].1 = x by rw [ex]; rfl, show PyProof.Rows.strOf xs[j].1 = y by rw [ey]; rfl]
    exact of_decide_eq_false q
theorem kst_kind {keys : Array Value} {kz : List Str} (hk : StrsAre keys.toList kz) (h2 : 2 ≤ keys.size) : keyKind' keys = pure oneType' := by
  obtain ⟨v₁, v₂, rest, e⟩ : ∃ v₁ v₂ rest, keys.toList = v₁ :: v₂ :: rest := by
    have hl : 2 ≤ keys.toList.length := by rw [Array.length_toList]; exact h2
    cases q : keys.toList with
    | nil => rw [q] at hl; simp at hl
    | cons v₁ r =>
      cases r with
      | nil => rw [q] at hl; simp at hl
      | cons v₂ rest => exact ⟨v₁, v₂, rest, rfl⟩
  have ek : keys = (v₁ :: v₂ :: rest).toArray := by rw [← e, Array.toArray_toList]
  rw [e] at hk
  rw [ek]
  exact keyKind_strs hk
theorem kst_keys {keys : Array Value} {vs : List Value} {kz : List Str} (hk : StrsAre keys.toList kz) : KeysOf strKind (keys.zip vs.toArray) := by
  intro p hp
  rw [ksk_zip] at hp
  obtain ⟨x, y⟩ := p
  obtain ⟨z, t, e⟩ := hk.all _ (List.of_mem_zip hp).1
  exact ⟨z.cps.toList, by rw [e]⟩
section
variable {prog : Program} {w : World} {A : Around} {E : Value → Shared → Prop} {s : Shared} {h₀ : Heap} {L : Addr} {m : Str → Option Value} {news : List (Addr × Obj)} {a kS : Addr} {vs : List Value} {kz : List Str} {keys : Array Value} {e e1 : Nat} {P : PySem.Fin → Shared → Prop}
theorem collect_rng {R : List Value → Shared → Prop} {r : Addr} {x y z : Int} {t u v : Tok} {n : Nat} (hh : A.handled = none) (hr : IsRange s.heap r x y z t u v) (hsmall : Builtin.Range.small x y z = true) (hn : Builtin.Range.rangeSize x y z = n) (hlen : n ≤ 2 ^ 24)
    (h : ∀ (h' : Heap) (tk : Nat) (acc : Array Value), (∀ b o, s.heap.get? b = some o → h'.get? b = some o) → ItemsOf (fun i v => ∃ t, v = .int (x + i * z) t) acc n → R acc.toList { s with heap := h', toks := tk }) :
    wpAny (model prog w) A (collect (.ref r)) R E s := by
  unfold collect
  refine wpAny_bind (wpAny_runValue (codeAny_builtin entry_proto_collect' ?_))
  rw [Around.under_plainId PySem.F.plain_proto_collect _]
  show wpAny _ A.in1 (newList [] >>= fun l => again (.builtin "list.__iadd__" ⟨[l, .ref r], []⟩)) _ _ s
  refine wpAny_bind (wpAny_newObj_type ?_)
  refine wpAny_pure ⟨plainId_quiet PySem.F.plain_list_iadd _, codeAny_builtin entry_list_iadd' ?_⟩
  rw [Around.under_plainId PySem.F.plain_list_iadd _]
  have hS₁ : (s.heap.push { cls := .type "list", data := .seq ([] : List Value).toArray }).get? s.heap.objs.size = some { cls := .type "list", data := .seq #[] } := Heap.get?_push_size _ rfl
  show wpAny _ A.in1 (Builtin.List.listExtendWith (.ref s.heap.objs.size) (.ref r) (.ref s.heap.objs.size)) _ _ _
  have key := wpAny_extend_range (prog := prog) (w := w) (A := A) (s := { s with heap := s.heap.push { cls := .type "list", data := .seq ([] : List Value).toArray } })
    (R := fun (q : Result) (s' : Shared) => ∃ (h' : Heap) (tk : Nat) (acc' : Array Value) (c' : Nat), q = .ok (.ret (.ref s.heap.objs.size)) ∧ s' = { s with heap := h', toks := tk } ∧
      (∀ b o, s.heap.get? b = some o → h'.get? b = some o) ∧ h'.get? s.heap.objs.size = some { cls := .type "list", dict := none, data := .seq acc' c', slots := #[] } ∧ ItemsOf (fun i v => ∃ t, v = .int (x + i * z) t) acc' n)
    hh (Heap.get?_push_of_some _ hr) hsmall hn hlen s.heap.objs.size (.ref s.heap.objs.size) 0 hS₁
    (fun h' tk acc' c' hk hS' hacc => ⟨h', tk, acc', c', rfl, rfl, fun b o e => hk b o (Nat.ne_of_lt (Heap.lt_size e)) (Heap.get?_push_of_some _ e), hS', hacc⟩)
  refine wpAny_mono key (fun fin s' q => ?_) fun e s' q => ?_
  · cases fin with
    | done f =>
      obtain ⟨h', tk, acc', c', e, rfl, hk, hS', hacc⟩ := q
      cases e
      show wpAny _ A (load s.heap.objs.size >>= _) _ _ _
      exact wpAny_bind (wpAny_load hS' (wpAny_pure (h h' tk acc' hk hacc)))
    | again c₁ =>
      refine ⟨q.1, codeAny_mono q.2 fun r s₂ y => ?_⟩
      obtain ⟨h', tk, acc', c', rfl, rfl, hk, hS', hacc⟩ := y
      show wpAny _ A (load s.heap.objs.size >>= _) _ _ _
      exact wpAny_bind (wpAny_load hS' (wpAny_pure (h h' tk acc' hk hacc)))
  · obtain ⟨_, _, _, _, z, _⟩ := q
    cases z
theorem kst_tail {st : SortSt} (F : Fr h₀ L s.heap m) (N : News h₀ L s.heap (news ++ [(kS, seqObj "list" keys e), (a, seqObj "list" #[] e1)])) (hka : kS ≠ a) (hnk : ∀ p ∈ news, p.1 ≠ kS) (hna : ∀ p ∈ news, p.1 ≠ a)
    (hk : StrsAre keys.toList kz) (hlen : kz.length = vs.length) (h64 : vs.length < 64) (hp : (arrOf st).Perm (keys.zip vs.toArray)) (hs : SortedToK strKind (arrOf st) (arrOf st).size) (hfl : failedOf st = none)
    (h : ∀ h' tk out c, Fr h₀ L h' m → News h₀ L h' ((a, seqObj "list" out c) :: news) → KstOut kz vs out.toList → P (.done (.ret .none)) { s with heap := h', toks := tk }) :
    wpAny (model prog w) A (ksk_tail a false e1 (.ref kS) st) P E s := by
  have nk := N (kS, seqObj "list" keys e) (List.mem_append_right _ (.head _))
  have na := N (a, seqObj "list" #[] e1) (List.mem_append_right _ (.tail _ (.head _)))
  have Nn : News h₀ L s.heap news := fun p hp => N p (List.mem_append_left _ hp)
  have hsz : keys.size = vs.length := by
    have h1 := strs_len hk
    rw [Array.length_toList] at h1
    omega
  have hout : ((arrOf st).map (·.2)).size = vs.length := by rw [Array.size_map, hp.size_eq, Array.size_zip, hsz, List.size_toArray, Nat.min_self]
  have s1 := Heap.SameBut.update s.heap kS (Obj.mapSeq fun _ => (#[] : Array Value))
  have na1 : (s.heap.update kS (Obj.mapSeq fun _ => (#[] : Array Value))).get? a = some (seqObj "list" #[] e1) := (s1.2 a hka.symm).trans na.1
  have s2 := Heap.SameBut.update (s.heap.update kS (Obj.mapSeq fun _ => (#[] : Array Value))) a (Obj.mapSeq fun _ => (arrOf st).map (·.2))
  obtain ⟨c2, hc2⟩ : ∃ c2, ((s.heap.update kS (Obj.mapSeq fun _ => (#[] : Array Value))).update a (Obj.mapSeq fun _ => (arrOf st).map (·.2))).get? a = some (seqObj "list" ((arrOf st).map (·.2)) c2) :=
    ⟨_, get?_update_seq na1 fun _ => (arrOf st).map (·.2)⟩
  have N2 := ksk_news (ksk_news Nn s1 hnk) s2 hna
  unfold ksk_tail
  try dsimp only
  refine wpAny_bind (listUpdate_at nk.1 rfl ?_ (by rw [hsz, sizeLine_eq]; omega) (Nat.zero_le _))
  refine wpAny_bind (wpAny_letGo ?_)
  refine wpAny_bind (seqEpoch_at na1 rfl ?_)
  refine wpAny_bind (listUpdate_at na1 rfl ?_ (Nat.zero_le _) (by simp only [Bool.false_eq_true, if_false]; exact Nat.le_trans (Nat.le_of_eq hout) (by rw [sizeLine_eq]; omega)))
  rw [hfl]
  simp only [bne_self_eq_false, Bool.false_eq_true, if_false]
  refine wpAny_pure (h _ _ _ c2 (ksk_fr (ksk_fr F s1 nk.2.1 nk.2.2) s2 na.2.1 na.2.2) (fun p hp => ?_) (kst_out hk hp hs))
  rcases List.mem_cons.mp hp with rfl | hp
  · exact ⟨hc2, na.2⟩
  · exact N2 p hp
theorem kst_end (F : Fr h₀ L s.heap m) (N : News h₀ L s.heap (news ++ [(kS, seqObj "list" keys e), (a, seqObj "list" #[] e1)])) (hka : kS ≠ a) (hnk : ∀ p ∈ news, p.1 ≠ kS) (hna : ∀ p ∈ news, p.1 ≠ a)
    (hk : StrsAre keys.toList kz) (hlen : kz.length = vs.length) (h64 : vs.length < 64)
    (h : ∀ h' tk out c, Fr h₀ L h' m → News h₀ L h' ((a, seqObj "list" out c) :: news) → KstOut kz vs out.toList → P (.done (.ret .none)) { s with heap := h', toks := tk }) :
    wpAny (model prog w) A (ksk_end a false vs.toArray e1 (.ref kS) keys) P E s := by
  have hsz : keys.size = vs.length := by
    have h1 := strs_len hk
    rw [Array.length_toList] at h1
    omega
  have hzs : (keys.zip vs.toArray).size = vs.length := by rw [Array.size_zip, hsz, List.size_toArray, Nat.min_self]
  unfold ksk_end
  simp only [Bool.false_eq_true, if_false]
  by_cases h2 : vs.toArray.size < 2
  · rw [if_pos h2, if_pos h2]
    refine wpAny_bind (wpAny_pure ?_)
    rw [StateT.run_pure]
    refine wpAny_bind (wpAny_pure ?_)
    try dsimp only
    refine kst_tail (st := SortSt.mk' general' (keys.zip vs.toArray) #[] 7 none) F N hka hnk hna hk hlen h64 (Array.Perm.refl _) ?_ rfl h
    intro i j hij hj
    have hj2 : j < (keys.zip vs.toArray).size := hj
    rw [hzs] at hj2
    rw [List.size_toArray] at h2
    have : i = j := by omega
    subst this
    exact strKind.kle_refl _
  · rw [if_neg h2, if_neg h2]
    rw [List.size_toArray] at h2
    rw [kst_kind hk (by rw [hsz]; omega)]
    refine wpAny_bind (wpAny_pure ?_)
    refine wpAny_bind (wpAny_mono (wpS_sortRunsK (κ := strKind) (a₀ := keys.zip vs.toArray) (st := SortSt.mk' oneType' (keys.zip vs.toArray) #[] 7 none)
      (Q := fun _ st' => (arrOf st').Perm (keys.zip vs.toArray) ∧ failedOf st' = none ∧ SortedToK strKind (arrOf st') (keys.zip vs.toArray).size)
      strKind_oneLt (kst_keys hk) ⟨Array.Perm.refl _, rfl, rfl, rfl⟩ (by rw [hzs]; omega) (by rw [hzs]; exact h64) fun st' a1 a2 a3 => ⟨a1, a2, a3⟩) ?_ fun _ _ e => e)
    rintro ⟨⟨⟩, st'⟩ s' ⟨rfl, hp, hf, hs⟩
    try dsimp only
    exact kst_tail F N hka hnk hna hk hlen h64 hp (by rw [hp.size_eq]; exact hs) hf h
end
end Mine
end
section -- LSortR
theorem Mine.rstLSortR : True := by
  w_top off
  trivial
open PySem PySem.W PyProof PyProof.Rows PySem.Calls
set_option Elab.async false
set_option maxRecDepth 100000
set_option maxHeartbeats 2000000
set_option linter.unusedVariables false
namespace Mine
section
variable {prog : Program} {w : World} {A : Around} {E : Value → Shared → Prop} {s : Shared} {h₀ : Heap} {L : Addr} {m : Str → Option Value} {news : List (Addr × Obj)} {a kS : Addr} {vs : List Value} {kz : List Str} {keys : Array Value} {e e1 : Nat} {P : PySem.Fin → Shared → Prop}
theorem kst_rest {f : Value} (F : Fr h₀ L s.heap m) (N : News h₀ L s.heap (news ++ [(kS, seqObj "list" #[] 0), (a, seqObj "list" #[] e1)])) (hka : kS ≠ a) (hnk : ∀ p ∈ news, p.1 ≠ kS) (hna : ∀ p ∈ news, p.1 ≠ a)
    (hlen : kz.length = vs.length) (h64 : vs.length < 64)
    (turn : ∀ (i : Nat) (v : Value) (k : Str), vs[i]? = some v → kz[i]? = some k → ∀ (h : Heap) (tk : Nat) (own : List (Addr × Obj)), Fr h₀ L h m → News h₀ L h (news ++ own) →
      wpAny (model prog w) A (call f [v]) (KstEnd h₀ L m (news ++ own) k { s with heap := h, toks := tk }) (fun _ _ => False) { s with heap := h, toks := tk })
    (h : ∀ h' tk out c, Fr h₀ L h' m → News h₀ L h' ((a, seqObj "list" out c) :: news) → KstOut kz vs out.toList → P (.done (.ret .none)) { s with heap := h', toks := tk }) :
    wpAny (model prog w) A (ksk_rest a f false vs.toArray e1 (.ref kS)) P E s := by
  unfold ksk_rest
  refine wpAny_bind (wpAny_rule ?_)
  first
    | rw [List.forIn_toArray]
    | (rw [← Array.forIn_toList]; simp only [List.toList_toArray])
    | rw [← Array.forIn_toList]
  refine wpAny_bind (ksk_fold (fun i s' => ∃ h' tk kA e, s' = { s with heap := h', toks := tk } ∧ Fr h₀ L h' m ∧ News h₀ L h' (news ++ [(kS, seqObj "list" kA e), (a, seqObj "list" #[] e1)]) ∧ StrsAre kA.toList (kz.take i)) vs 0 s
    ⟨s.heap, s.toks, #[], 0, rfl, F, N, by simpa using StrsAre.nil⟩ ?step ?done)
  case step =>
    rintro j x s' hx ⟨h', tk, kA, e, rfl, F', N', hk⟩
    simp only [Nat.zero_add] at hk ⊢
    have hj : j < vs.length := (List.getElem?_eq_some_iff.mp hx).1
    obtain ⟨k, hkj⟩ : ∃ k, kz[j]? = some k := ⟨_, List.getElem?_eq_getElem (by omega)⟩
    have hz : kA.size ≤ vs.length := by
      have h1 := strs_len hk
      rw [Array.length_toList, List.length_take] at h1
      omega
    refine wpAny_bind (wpAny_attempt (wpAny_mono (turn j x k hx hkj h' tk _ F' N') (fun v s'' he => ?_) fun _ _ hF => hF.elim))
    obtain ⟨g, tk2, t2, rfl, rfl, F2, N2⟩ := he
    try dsimp only
    have nk := N2 (kS, seqObj "list" kA e) (List.mem_append_right _ (.head _))
    have na := N2 (a, seqObj "list" #[] e1) (List.mem_append_right _ (.tail _ (.head _)))
    have s1 := Heap.SameBut.update g kS (Obj.mapSeq (·.push (.str k t2)))
    obtain ⟨c2, hc2⟩ : ∃ c2, (g.update kS (Obj.mapSeq (·.push (.str k t2)))).get? kS = some (seqObj "list" (kA.push (.str k t2)) c2) := ⟨_, get?_update_seq nk.1 (·.push (.str k t2))⟩
    have ek : kz.take (j + 1) = kz.take j ++ [k] := by rw [List.take_add_one, hkj]; simp
    have ea : (kA.push (Value.str k t2)).toList = kA.toList ++ [Value.str k t2] := by simp
    refine wpAny_bind (listUpdate_at nk.1 rfl ?_ (by rw [sizeLine_eq]; omega) (Nat.le_trans (Nat.le_of_eq (Array.size_push ..)) (by rw [sizeLine_eq]; omega)))
    refine wpAny_pure ⟨rfl, _, _, kA.push (.str k t2), c2, rfl, ksk_fr F2 s1 nk.2.1 nk.2.2, fun p hp => ?_, by rw [ea, ek]; exact kst_snoc hk⟩
    rcases List.mem_append.mp hp with hp | hp
    · exact ksk_news (fun q hq => N2 q (List.mem_append_left _ hq)) s1 hnk p hp
    · rcases List.mem_cons.mp hp with rfl | hp
      · exact ⟨hc2, nk.2⟩
      · rw [List.mem_singleton.mp hp]
        exact ⟨(s1.2 a hka.symm).trans na.1, na.2⟩
  case done =>
    rintro s' ⟨h', tk, kA, e, rfl, F', N', hk⟩
    have hk' : StrsAre kA.toList kz := by
      have e3 : kz.take (0 + vs.length) = kz := List.take_of_length_le (by omega)
      rw [e3] at hk
      exact hk
    have nk := N' (kS, seqObj "list" kA e) (List.mem_append_right _ (.head _))
    try dsimp only
    refine wpAny_bind (listItems_at nk.1 rfl ?_)
    exact kst_end F' N' hka hnk hna hk' hlen h64 fun h3 tk3 out c F3 N3 k3 => h h3 tk3 out c F3 N3 k3
theorem kst_sort {f : Value} {n : Nat} (F : Fr h₀ L s.heap m) (N : News h₀ L s.heap news) (ho : s.heap.get? a = some (seqObj "list" vs.toArray n)) (haL : a ≠ L) (ha0 : h₀.get? a = none) (hna : ∀ p ∈ news, p.1 ≠ a)
    (hlen : kz.length = vs.length) (h64 : vs.length < 64)
    (turn : ∀ (i : Nat) (v : Value) (k : Str), vs[i]? = some v → kz[i]? = some k → ∀ (h : Heap) (tk : Nat) (own : List (Addr × Obj)), Fr h₀ L h m → News h₀ L h (news ++ own) →
      wpAny (model prog w) A (call f [v]) (KstEnd h₀ L m (news ++ own) k { s with heap := h, toks := tk }) (fun _ _ => False) { s with heap := h, toks := tk })
    (h : ∀ h' tk out c, Fr h₀ L h' m → News h₀ L h' ((a, seqObj "list" out c) :: news) → KstOut kz vs out.toList → P (.done (.ret .none)) { s with heap := h', toks := tk }) :
    wpAny (model prog w) A (ksk_tree a f false) P E s := by
  have ha : a < s.heap.objs.size := Heap.lt_size ho
  have s1 := Heap.SameBut.update s.heap a (Obj.mapSeq fun _ => (#[] : Array Value))
  obtain ⟨e1, ho1⟩ : ∃ e1, (s.heap.update a (Obj.mapSeq fun _ => (#[] : Array Value))).get? a = some (seqObj "list" #[] e1) := ⟨_, get?_update_seq ho fun _ => #[]⟩
  have F1 := ksk_fr F s1 haL ha0
  have N1 := ksk_news N s1 hna
  have hkS : ((s.heap.update a (Obj.mapSeq fun _ => (#[] : Array Value))).push (seqObj "tuple" vs.toArray 0)).objs.size = s.heap.objs.size + 1 := by rw [size_push', Heap.size_update]
  have hLk : L < ((s.heap.update a (Obj.mapSeq fun _ => (#[] : Array Value))).push (seqObj "tuple" vs.toArray 0)).objs.size := (F1.push _).ns.lt
  unfold ksk_tree
  refine wpAny_bind (listItems_at ho rfl ?_)
  refine wpAny_bind (listUpdate_at ho rfl ?_ (by rw [List.size_toArray, sizeLine_eq]; omega) (Nat.zero_le _))
  refine wpAny_bind (seqEpoch_at ho1 rfl ?_)
  refine wpAny_bind (wpAny_newTuple ?_ (by show vs.length ≤ _; rw [sizeLine_eq]; omega))
  refine wpAny_bind (wpAny_newList ?_ (Nat.zero_le _))
  refine wpAny_holding ?_
  refine kst_rest (s := { s with heap := ((s.heap.update a (Obj.mapSeq fun _ => (#[] : Array Value))).push (seqObj "tuple" vs.toArray 0)).push (seqObj "list" #[] 0) }) (kS := ((s.heap.update a (Obj.mapSeq fun _ => (#[] : Array Value))).push (seqObj "tuple" vs.toArray 0)).objs.size)
    ((F1.push _).push _) (fun p hp => ?_) (by rw [hkS]; exact Nat.ne_of_gt (Nat.lt_succ_of_lt ha)) (fun p hp => by rw [hkS]; exact Nat.ne_of_lt (Nat.lt_succ_of_lt (Heap.lt_size (N p hp).1))) hna hlen h64 turn h
  rcases List.mem_append.mp hp with hp | hp
  · exact ⟨Heap.get?_push_of_some _ (Heap.get?_push_of_some _ (N1 p hp).1), (N1 p hp).2⟩
  · rcases List.mem_cons.mp hp with rfl | hp
    · exact ⟨Heap.get?_push_size _ rfl, Nat.ne_of_gt hLk, Heap.get?_none_of_le (Nat.le_trans F.above (Nat.le_of_lt hLk))⟩
    · rw [List.mem_singleton.mp hp]
      exact ⟨Heap.get?_push_of_some _ (Heap.get?_push_of_some _ ho1), haL, ha0⟩
theorem items_ints {acc : Array Value} {x : Int} {n : Nat} (h : ItemsOf (fun i v => ∃ t, v = .int (x + i * 1) t) acc n) : IntsAre acc.toList (rangeKs x n) := by
  have key : ∀ (l : List Value) (o : Nat), (∀ (j : Nat) (v : Value), l[j]? = some v → ∃ t, v = Value.int (x + ((o + j : Nat) : Int)) t) → IntsAre l ((List.range' o l.length).map fun (i : Nat) => x + (i : Int)) := by
    intro l
    induction l with
    | nil => intro o _; exact .nil
    | cons v r ih =>
      intro o hh
      obtain ⟨t, e⟩ := hh 0 v rfl
      rw [e, List.length_cons, List.range'_succ, List.map_cons, Nat.add_zero]
      refine .cons _ t (ih (o + 1) fun j v hv => ?_)
      obtain ⟨t', e'⟩ := hh (j + 1) v hv
      exact ⟨t', by rw [e', show o + (j + 1) = o + 1 + j by omega]⟩
  have k := key acc.toList 0 (fun j v hv => by
    obtain ⟨t, e⟩ := h.2 j v (by rw [← Array.getElem?_toList]; exact hv)
    refine ⟨t, ?_⟩
    rw [e, Int.mul_one, Nat.zero_add])
  rw [Array.length_toList, h.1, ← List.range_eq_range'] at k
  exact k
theorem sorted_rng {Q : Value → Shared → Prop} {f : Addr} {r : Addr} {n : Nat} {t u v : Tok} (hh : A.handled = none) (F : Fr h₀ L s.heap m) (N : News h₀ L s.heap news) (hr : IsRange s.heap r 0 (n : Int) 1 t u v) (hn : n < 64) (hlen : kz.length = n)
    (turn : ∀ (i : Nat) (t : Tok) (k : Str), i < n → kz[i]? = some k → ∀ (h : Heap) (tk : Nat) (own : List (Addr × Obj)), Fr h₀ L h m → News h₀ L h (news ++ own) →
      wpAny (model prog w) A.in1.in1 (call (.ref f) [.int i t]) (KstEnd h₀ L m (news ++ own) k { s with heap := h, toks := tk }) (fun _ _ => False) { s with heap := h, toks := tk })
    (h : ∀ D h' tk vs out c, Fr h₀ L h' m → News h₀ L h' ((D, seqObj "list" out c) :: news) → (∀ q ∈ news, @LT.lt Nat _ q.1 D) → IntsAre vs (rangeKs 0 n) → KstOut kz vs out.toList → Q (.ref D) { s with heap := h', toks := tk }) :
    wpAny (model prog w) A (call (.builtin "sorted") [.ref r] [(Str.ofString "key", .ref f)]) Q E s := by
  refine call_function_entry_kw kind_sorted plain_sorted entry_sorted (ksk_s1 _ _) ?_
  unfold Builtin.«sorted»
  refine wpAny_bind (m := checkCount "sorted" 1 1 _) (wpAny_pure ?_)
  refine wpAny_bind (collect_rng (n := n) hh hr (small_one (by omega) (by omega) (by omega) (by omega)) (by rw [rangeSize_one]; split <;> omega) (by omega) ?_)
  intro h1 tk1 acc hk1 hacc
  have hI := items_ints hacc
  have hal : acc.toList.length = n := by rw [Array.length_toList]; exact hacc.1
  refine wpAny_bind (wpAny_newList ?_ (by rw [sizeLine_eq]; omega))
  have hoL : (h1.push (seqObj "list" acc.toList.toArray 0)).get? h1.objs.size = some (seqObj "list" acc.toList.toArray 0) := Heap.get?_push_size _ rfl
  have keep : ∀ b o, s.heap.get? b = some o → (h1.push (seqObj "list" acc.toList.toArray 0)).get? b = some o := fun b o q => Heap.get?_push_of_some _ (hk1 b o q)
  have hL : L < h1.objs.size := (F.kept hk1).ns.lt
  show wpAny _ _ _ _ _ { s with heap := h1.push (seqObj "list" acc.toList.toArray 0), toks := tk1 }
  refine wpAny_bind (wpAny_holding (wpAny_call_entry_kw slot_list_sort ⟨_, hoL, rfl⟩ entry_list_sort ?body (ksk_l1 _ _)))
  case body =>
    show wpAny (model prog w) A.in1.in1 (Builtin.«list.sort» ⟨[.ref h1.objs.size], [(Str.ofString "key", .ref f)]⟩) _ _ _
    rw [ksk_t1]
    refine kst_sort (s := { s with heap := h1.push (seqObj "list" acc.toList.toArray 0), toks := tk1 }) (vs := acc.toList) (kz := kz)
      (F.kept keep) (N.grown keep) hoL (Nat.ne_of_gt hL) (Heap.get?_none_of_le (Nat.le_trans F.above (Nat.le_of_lt hL)))
      (fun p hp => Nat.ne_of_lt (Heap.lt_size (hk1 _ _ (N p hp).1))) (by omega) (by omega) (fun i v k hv hkk h tk own F' N' => ?_) fun h' tk out c F' N' k' => ⟨_, rfl, ?_⟩
    · have hi : i < n := by rw [← hal]; exact (List.getElem?_eq_some_iff.mp hv).1
      obtain ⟨t', e'⟩ := hacc.2 i v (by rw [← Array.getElem?_toList]; exact hv)
      rw [e', Int.mul_one, Int.zero_add]
      exact turn i t' k hi hkk h tk own F' N'
    · exact wpAny_pure ⟨_, rfl, h _ h' tk acc.toList out c F' N' (fun q hq => Heap.lt_size (hk1 _ _ (N q hq).1)) hI k'⟩
end
end Mine
end
section -- LSortI
theorem Mine.rstLSortI : True := by
  w_top off
  trivial
open PySem PySem.W PyProof PyProof.Rows PySem.Calls
set_option Elab.async false
set_option maxRecDepth 100000
set_option linter.unusedVariables false
namespace Mine
theorem kst_ints {vs out : List Value} {ns : List Int} {g : Int → Str} (hi : IntsAre vs ns) (o : KstOut (ns.map g) vs out) : ∃ pl, IntsAre out pl ∧ pl.Perm ns ∧ pl.Pairwise (fun x y => ¬ (g y).cps.toList < (g x).cps.toList) := by
  have hlen := hi.length
  obtain ⟨ps, hp, ho, hs⟩ := o
  have hrel : ∀ p, p ∈ (ns.map g).zip vs → p.1 = g (numOf p.2) ∧ p.2 ∈ vs := by
    rw [← hi.nums, List.map_map, List.zip_map_left]
    intro p hp
    obtain ⟨⟨u, v⟩, hq, rfl⟩ := List.mem_map.mp hp
    have h1 : u = v ∧ u ∈ vs := mem_zip_self hq
    refine ⟨?_, ?_⟩
    · show g (numOf u) = g (numOf v)
      rw [h1.1]
    · show v ∈ vs
      rw [← h1.1]
      exact h1.2
  refine ⟨(ps.map Prod.snd).map numOf, ?_, ?_, ?_⟩
  · rw [ho]
    exact intsAre_map _ fun v hv => by
      obtain ⟨p, hp', rfl⟩ := List.mem_map.mp hv
      exact hi.all _ (hrel p (hp.mem_iff.mp hp')).2
  · have h1 := (hp.map Prod.snd).map numOf
    rw [List.map_snd_zip (by rw [List.length_map]; omega), hi.nums] at h1
    exact h1
  · rw [List.pairwise_map, List.pairwise_map]
    refine hs.imp_of_mem fun {p q} hp' hq' hr => ?_
    rw [(hrel p (hp.mem_iff.mp hp')).1, (hrel q (hp.mem_iff.mp hq')).1] at hr
    exact hr
end Mine
end
section -- LLoop2
theorem Mine.rstLLoop2 : True := by
  w_top off
  trivial
open PySem PySem.W PyProof.Rows PySem.Calls PySem.Builtin PySem.Builtin.Str
set_option Elab.async false
set_option maxRecDepth 100000
set_option maxHeartbeats 1000000
namespace Mine
section
variable {prog : Program} {w : World} {A : Around} {E : Value → Shared → Prop} {s : Shared} {env : Env} {Q : Flow → Shared → Prop}
/-- a loop's state: the frame's map by J, the ledger as it stands -/
noncomputable def LedJ (g : Heap) (L : Addr) (s : Shared) (led : List (Addr × Obj)) (J : Nat → (Str → Option Value) → Prop) (n : Nat) (s' : Shared) : Prop :=
  ∃ h tk m, s' = { s with heap := h, toks := tk } ∧ J n m ∧ Fr g L h m ∧ News g L h led
theorem while_led {test : Expr} {body orelse : List Stmt} {pos : Pos} {g : Heap} {m0 : Str → Option Value} {led : List (Addr × Obj)} {L : Addr} (J : Nat → (Str → Option Value) → Prop) (n : Nat) (hE : PassesOwn (model prog w) A env E) (F : Fr g L s.heap m0) (N : News g L s.heap led) (h0 : J n m0)
    (turn : ∀ n h tk m, J n m → Fr g L h m → News g L h led → wpAny (model prog w) A (isTrue test env (eval test env)) (fun b s₂ => WTurn b (wpAny (model prog w) A (execs body env) (WEnd (LedJ g L s led J) Q n) E s₂) (wpAny (model prog w) A (execs orelse env) Q E s₂)) E { s with heap := h, toks := tk }) :
    wpAny (model prog w) A (exec (.While test body orelse pos) env) Q E s := by
  refine while_at (LedJ g L s led J) hE ?_ n ⟨s.heap, s.toks, m0, rfl, h0, F, N⟩
  rintro n s' ⟨h, tk, m, rfl, hJ, F', N'⟩
  exact turn n h tk m hJ F' N'
theorem led_gen {g h : Heap} {L : Addr} {l : List (Addr × Obj)} (N : News g L h l) : ∃ led, led = l ∧ News g L h led := ⟨l, rfl, N⟩
theorem fr_congr {g h : Heap} {L : Addr} {m m' : Str → Option Value} (F : Fr g L h m) (e : ∀ y, m y = m' y) : Fr g L h m' := by
  have : m = m' := funext e
  rwa [this] at F
end
end Mine
end
section -- MFind
theorem Mine.rstMFind : True := by
  w_top off
  trivial
open PySem PySem.W PyProof PyProof.Rows PySem.Calls PySem.Builtin PySem.Builtin.Str PySem.StrLaws
set_option Elab.async false
set_option maxRecDepth 100000
namespace Mine
/-- the sign at a place -/
noncomputable abbrev ch (x : Str) (j : Nat) : Nat := x.cps.getD j 0
/-- the sought text stands at k -/
noncomputable def Occ (TX SO : Str) (k : Nat) : Prop := k + SO.length ≤ TX.length ∧ ∀ j, j < SO.length → ch TX (k + j) = ch SO j
theorem ch_app (x y : Str) (j : Nat) : ch (x ++ y) j = if j < x.length then ch x j else ch y (j - x.length) := by
  show (x.cps ++ y.cps).getD j 0 = _
  rw [Array.getD_eq_getD_getElem?, Array.getElem?_append]
  split
  · rename_i h
    rw [if_pos (show j < x.length from h)]
    simp [ch, h]
  · rename_i h
    rw [if_neg (show ¬ j < x.length from h), ← Array.getD_eq_getD_getElem?]
    rfl
theorem at_iff {TX SO : Str} {k : Nat} : At TX SO TX.length k ↔ Occ TX SO k := by
  unfold At Occ subAt
  constructor
  · rintro ⟨h1, h2⟩
    refine ⟨h1, fun j hj => ?_⟩
    have h3 := eq_of_beq h2
    have h4 := congrArg (fun a => a.getD j 0) h3
    simp only [ch, Array.getD_eq_getD_getElem?] at h4 ⊢
    rw [← h4, Array.getElem?_extract]
    have hT : k + SO.length ≤ TX.cps.size := h1
    rw [if_pos (by rw [Nat.min_eq_left hT, Nat.add_sub_cancel_left]; exact hj)]
  · rintro ⟨h1, h2⟩
    refine ⟨h1, ?_⟩
    have hT : k + SO.length ≤ TX.cps.size := h1
    rw [beq_iff_eq]
    apply Array.ext
    · rw [Array.size_extract, Nat.min_eq_left hT, Nat.add_sub_cancel_left]; rfl
    · intro i h3 h4
      have := h2 i h4
      simp only [ch, Array.getD_eq_getD_getElem?] at this
      have h5 : k + i < TX.cps.size := Nat.lt_of_lt_of_le (Nat.add_lt_add_left h4 k) hT
      simpa [h4, h5] using this
/-- the joined text, sign by sign -/
theorem len_app3 (SO TX : Str) : (SO ++ Str.ofString "|" ++ TX).length = SO.length + 1 + TX.length := by
  show ((SO.cps ++ (Str.ofString "|").cps) ++ TX.cps).size = _
  rw [Array.size_append, Array.size_append]
  rfl
theorem len_app2 (SO : Str) : (SO ++ Str.ofString "|").length = SO.length + 1 := by
  show (SO.cps ++ (Str.ofString "|").cps).size = _
  rw [Array.size_append]; rfl
theorem ch3_l {SO TX : Str} {j : Nat} (h : j < SO.length) : ch (SO ++ Str.ofString "|" ++ TX) j = ch SO j := by
  rw [ch_app, if_pos (by rw [len_app2]; exact Nat.lt_succ_of_lt h), ch_app, if_pos h]
theorem ch3_m (SO TX : Str) : ch (SO ++ Str.ofString "|" ++ TX) SO.length = 124 := by
  rw [ch_app, if_pos (by rw [len_app2]; exact Nat.lt_succ_self _), ch_app, if_neg (Nat.lt_irrefl _), Nat.sub_self]
  rfl
theorem ch3_r (SO TX : Str) (j : Nat) : ch (SO ++ Str.ofString "|" ++ TX) (SO.length + 1 + j) = ch TX j := by
  rw [ch_app, len_app2, if_neg (Nat.not_lt_of_le (Nat.le_add_right _ _)), Nat.add_sub_cancel_left]
theorem bdr_kmp {SO TX : Str} {k : Nat} (hk : k + SO.length ≤ TX.length) : bdr (fun j => ch (SO ++ Str.ofString "|" ++ TX) j) (2 * SO.length + k) SO.length ↔ Occ TX SO k := by
  constructor
  · rintro ⟨d, _, hd, h⟩
    have e : d = SO.length + 1 + k := by omega
    subst e
    refine ⟨hk, fun j hj => ?_⟩
    have h2 := h j hj
    dsimp only at h2
    rw [ch3_l hj, Nat.add_assoc, ch3_r] at h2
    exact h2.symm
  · rintro ⟨_, h⟩
    refine ⟨SO.length + 1 + k, by omega, by omega, fun j hj => ?_⟩
    dsimp only
    rw [ch3_l hj, Nat.add_assoc, ch3_r]
    exact (h j hj).symm
/-- Knuth, Morris, Pratt: the table is as great as the sought text is long, where it ends -/
theorem kmp_iff {SO TX : Str} {k : Nat} (hk : k + SO.length ≤ TX.length) (hX : ∀ j, j < TX.length → ch TX j ≠ 124) :
    bd (fun j => ch (SO ++ Str.ofString "|" ++ TX) j) (2 * SO.length + k) = SO.length ↔ Occ TX SO k := by
  rw [← bdr_kmp hk]
  constructor
  · intro h
    have := bd_is (fun j => ch (SO ++ Str.ofString "|" ++ TX) j) (2 * SO.length + k)
    rwa [h] at this
  · intro h
    refine bd_eq h fun b hb => Nat.le_of_not_lt fun hlt => ?_
    obtain ⟨d, h0, h1, h2⟩ := hb
    obtain ⟨e, rfl⟩ : ∃ e, d = e + 1 := ⟨d - 1, (Nat.sub_add_cancel h0).symm⟩
    have h3 := h2 SO.length hlt
    dsimp only at h3
    rw [ch3_m, show e + 1 + SO.length = SO.length + 1 + e by rw [Nat.add_assoc, Nat.add_comm 1, Nat.add_comm], ch3_r] at h3
    exact hX e (by omega) h3.symm
/-- the borders of the joined text's head are the sought text's -/
theorem bdr_head {SO TX : Str} {i k : Nat} (hi : i < SO.length) : bdr (fun j => ch (SO ++ Str.ofString "|" ++ TX) j) i k ↔ bdr (fun j => ch SO j) i k := by
  have key : ∀ d, d + k = i + 1 → ∀ j, j < k → d + j < SO.length := fun d hd j hj => Nat.lt_of_lt_of_le (Nat.add_lt_add_left hj d) (hd ▸ hi)
  have k2 : ∀ d, d + k = i + 1 → ∀ j, j < k → j < SO.length := fun d hd j hj => Nat.lt_of_le_of_lt (Nat.le_add_left j d) (key d hd j hj)
  constructor
  · rintro ⟨d, h0, h1, h2⟩
    refine ⟨d, h0, h1, fun j hj => ?_⟩
    have := h2 j hj
    dsimp only at this ⊢
    rwa [ch3_l (k2 d h1 j hj), ch3_l (key d h1 j hj)] at this
  · rintro ⟨d, h0, h1, h2⟩
    refine ⟨d, h0, h1, fun j hj => ?_⟩
    dsimp only
    rw [ch3_l (k2 d h1 j hj), ch3_l (key d h1 j hj)]
    exact h2 j hj
/-- two places less than its length apart: what both have is a border -/
theorem shared_bdr {SO TX : Str} {i e b : Nat} (hi : Occ TX SO i) (hk : Occ TX SO (i + e)) (he : 0 < e) (hz : e + b = SO.length) : bdr (fun j => ch SO j) (SO.length - 1) b := by
  refine ⟨e, he, by rw [hz, Nat.sub_add_cancel (hz ▸ Nat.le_trans he (Nat.le_add_right e b))], fun j hj => ?_⟩
  have hj' : e + j < SO.length := hz ▸ Nat.add_lt_add_left hj e
  dsimp only
  rw [← hk.2 j (Nat.lt_of_le_of_lt (Nat.le_add_left j e) hj'), ← hi.2 (e + j) hj', Nat.add_assoc]
end Mine
end
section -- LFroz
theorem Mine.rstLFroz : True := by
  w_top off
  trivial
set_option Elab.async false
set_option maxRecDepth 100000
set_option maxHeartbeats 2000000
namespace Mine
open PySem PySem.W PyProof.Rows PySem.Calls PySem.Builtin
noncomputable abbrev fsObj (es : Array (Int × Value)) (ep : Nat) (t : SetTable) : Obj := { cls := .type "frozenset", dict := none, data := .set es ep t }
theorem mro_fs : mroOf (.type "frozenset") = pure [.type "frozenset", .type "object"] := by rw [mroOf_type]; kernel_rfl
theorem lookup_fs_new : typeLookup (.type "frozenset") "__new__" = pure (some (.builtin "frozenset.__new__")) := by rw [typeLookup_type, builtinLookup_eq_fast]; kernel_rfl
theorem slot_fs_init : Slot "frozenset" "__init__" "object.__init__" :=
  .of (owner := "object") (n := "__init__") (by rw [typeLookup_type, builtinLookup_eq_fast]; kernel_rfl) (by decide +kernel) (by decide +kernel) (by decide +kernel)
    (by first | exact .inl (by decide +kernel) | exact .inr (by decide +kernel)) (by rw [isSubtype_type]; kernel_rfl)
theorem called_fs : TypeCalled "frozenset" "frozenset.__new__" "object.__init__" :=
  ⟨by decide +kernel, by decide +kernel, ⟨_, _, mro_fs⟩, madeBy_type mro_fs lookup_fs_new (by decide +kernel), by decide +kernel, by rw [isSubtype_type]; kernel_rfl, slot_fs_init⟩
theorem typeCall_fs_0 : checkTypeCall "frozenset" ⟨[], []⟩ = pure () := by kernel_rfl
theorem typeCall_fs_1 (a : Value) : checkTypeCall "frozenset" ⟨[a], []⟩ = pure () := by kernel_rfl
theorem newCall_fs_0 : checkBuiltinCall "frozenset.__new__" ⟨[.type "frozenset"], []⟩ = pure () := by kernel_rfl
theorem newCall_fs_1 (a : Value) : checkBuiltinCall "frozenset.__new__" ⟨[.type "frozenset", a], []⟩ = pure () := by kernel_rfl
theorem entry_fs_new : entryFor table "frozenset.__new__" = some Builtin.«frozenset.__new__» := entryFor_of_tree (by kernel_rfl)
theorem plain_fs_new : plainId "frozenset.__new__" = true := by decide +kernel
theorem sub_fs_self : isSubtype (.type "frozenset") (.type "frozenset") = pure true := by rw [isSubtype_type]; kernel_rfl
theorem init_fs : typeLookup (.type "frozenset") "__init__" = pure (some (.builtin "object.__init__")) := slot_fs_init.lookup
theorem sub_str_set : isSubtype (.type "str") (.type "set") = pure false := by rw [isSubtype_type]; kernel_rfl
theorem sub_str_fs : isSubtype (.type "str") (.type "frozenset") = pure false := by rw [isSubtype_type]; kernel_rfl
section
variable {prog : Program} {w : World} {A : Around} {E : Value → Shared → Prop} {s : Shared} {a : Addr} {o : Obj} {S : Str → Bool} {n : Nat} {x : Str} {t : Tok}
theorem fs_fresh (led : Bool) : FsO prog w (fsObj #[] 0 (.fresh 0 0 led)) (fun _ => false) 0 :=
  ⟨#[], 0, _, rfl, fun e he => by simp at he, fun k => by simp, rfl, by rfl⟩
theorem fs_stored {h : Heap} {es es' : Array (Int × Value)} {ep : Nat} {tb tb' : SetTable} (ho : h.get? a = some (fsObj es ep tb)) : (h.update a (Obj.putSet es' tb')).get? a = some (fsObj es' (ep + 1) tb') := by
  have := Heap.get?_update_self (Obj.putSet es' tb') ho (by rw [putSet_of es' tb' (show (fsObj es ep tb).data = _ from rfl)]; rfl)
  rw [putSet_of es' tb' (show (fsObj es ep tb).data = _ from rfl)] at this
  exact this
/-- a new sign is put into the frozenset that is being made -/
theorem fs_add {Q : Bool → Shared → Prop} (ho : s.heap.get? a = some o) (hf : FsO prog w o S n) (hn : n < 64) (hSk : S x = false)
    (h : ∀ h' o', Heap.SameBut a s.heap h' → h'.get? a = some o' → FsO prog w o' (fun k => S k || decide (k = x)) (n + 1) → Q true { s with heap := h' }) :
    wpAny (model prog w) A (setAddHashed a (.str x t) ((strKind prog w).hash x)) Q E s := by
  obtain ⟨es, ep, tb, rfl, hel, hmem, hsz, hfit⟩ := hf
  have hb : es.size < scanBound := by show es.size < 4096; omega
  have hkey : (strKind prog w).is x (.str x t) = true := isStr_self x t
  unfold setAddHashed setAddHashedIn
  refine wpAny_holding (wpAny_bind (wpAny_setState_of ho rfl hfit ?_))
  dsimp only
  rw [byScan_of (knd := strKind prog w) (x := .str x t) rfl hb hel]
  simp only [↓reduceIte]
  unfold setAddByScan
  refine wpAny_bind ?_
  refine wpAny_bind (wpAny_rule ?_)
  refine wpAny_bind (wpAny_setScan_of hkey ho rfl hfit hel ?_)
  have hr : List.findIdx? (fun e => (strKind prog w).is x e.2) es.toList = none := by
    rw [List.findIdx?_eq_none_iff]
    intro e he
    cases hq : (strKind prog w).is x e.2 with
    | false => rfl
    | true => rw [(hmem x).mpr ⟨e, he, hq⟩] at hSk; cases hSk
  rw [hr]
  dsimp only
  have hperm := layNew_perm tb es ((strKind prog w).hash x) (.str x t)
  have hfits := layNew_fits tb es ((strKind prog w).hash x) (.str x t)
  generalize hL : layNew tb es ((strKind prog w).hash x) (.str x t) = LL at hperm hfits ⊢
  obtain ⟨es1, t1, wasDummy, gave⟩ := LL
  dsimp only at hperm hfits ⊢
  rw [Array.toList_push] at hperm
  have hel1 : ElemsOf (strKind prog w) es1.toList := (hel.push hkey rfl).perm hperm
  have hmem1 := mem_push_iff hkey hmem hperm
  have hsz1 : es1.size = n + 1 := by rw [← Array.length_toList, hperm.length_eq, List.length_append, Array.length_toList, hsz]; rfl
  have hb1 : es1.size < scanBound := by show es1.size < 4096; omega
  have hw : ∀ (b : Bool) (s₁ : Shared) (Q' : Unit → Shared → Prop), Q' () s₁ → wpAny (model prog w) A (match b with | true => rule "set.scan.the-table-gave-way" | false => pure ()) Q' E s₁ :=
    fun b s₁ Q' hq => by cases b <;> first | exact wpAny_pure hq | exact wpAny_rule hq
  refine wpAny_bind (hw _ _ _ ?_)
  have fin : ∀ t2 : SetTable, t2.fits es1.size = true → wpAny (model prog w) A (do
        storeSet a es1 t2
        if (!wasDummy && t2.tooFull) = true then do
            (match (relayAll t2 es1 (SetTable.grown es1.size)).2.2 with | true => rule "set.scan.the-table-gave-way" | false => pure ())
            storeSet a (relayAll t2 es1 (SetTable.grown es1.size)).1 (relayAll t2 es1 (SetTable.grown es1.size)).2.1
            pure (some true)
          else pure (some true)) (fun r s' => ∃ h' o', Heap.SameBut a s.heap h' ∧ h'.get? a = some o' ∧ FsO prog w o' (fun k => S k || decide (k = x)) (n + 1) ∧ r = some true ∧ s' = { s with heap := h' }) E s := by
    intro t2 hf2
    refine wpAny_bind (wpAny_storeSet_of ho rfl ?_ (fits_of_scanBound hb1))
    have ho1 := fs_stored (es' := es1) (tb' := t2) ho
    have sb1 := Heap.SameBut.update s.heap a (Obj.putSet es1 t2)
    split
    · have hp := relayAll_perm t2 es1 (SetTable.grown es1.size)
      have hfr := relayAll_fits t2 es1 (SetTable.grown es1.size)
      generalize relayAll t2 es1 (SetTable.grown es1.size) = RR at hp hfr ⊢
      obtain ⟨es2, t3, gave2⟩ := RR
      dsimp only at hp hfr ⊢
      have hs2 : es2.size = es1.size := by rw [← Array.length_toList, hp.length_eq, Array.length_toList]
      refine wpAny_bind (hw _ _ _ ?_)
      refine wpAny_bind (wpAny_storeSet_of ho1 rfl ?_ (fits_of_scanBound (by rw [hs2]; exact hb1)))
      refine wpAny_pure ⟨_, _, sb1.trans (Heap.SameBut.update _ a _), fs_stored ho1, ⟨es2, _, t3, rfl, hel1.perm hp, fun k => (hmem1 k).trans ⟨fun ⟨e, he, q⟩ => ⟨e, hp.mem_iff.mpr he, q⟩, fun ⟨e, he, q⟩ => ⟨e, hp.mem_iff.mp he, q⟩⟩, by omega, hfr⟩, rfl, rfl⟩
    · exact wpAny_pure ⟨_, _, sb1, ho1, ⟨es1, _, t2, rfl, hel1, hmem1, hsz1, hf2⟩, rfl, rfl⟩
  split
  · refine wpAny_bind ?_
    rw [hashByValue_scannable 8 (show (Value.str x t).scannable = true from rfl)]
    refine wpAny_pure ?_
    refine wpAny_mono (fin _ (by split <;> first | exact hfits | exact SetTable.fits_plain_off hfits)) ?_ fun _ _ e => e
    rintro r s' ⟨h', o', sb, ho', hfo, rfl, rfl⟩
    exact wpAny_pure (h h' o' sb ho' hfo)
  · refine wpAny_bind (wpAny_pure ?_)
    simp only [↓reduceIte]
    refine wpAny_mono (fin _ hfits) ?_ fun _ _ e => e
    rintro r s' ⟨h', o', sb, ho', hfo, rfl, rfl⟩
    exact wpAny_pure (h h' o' sb ho' hfo)
/-- the first signs of a text -/
noncomputable def sgns (y : Str) (i : Nat) (k : Str) : Bool := (y.cps.toList.take i).any fun c => decide (k = ⟨#[c]⟩)
theorem sgns_succ {y : Str} {i c : Nat} (hc : y.cps[i]? = some c) (k : Str) : sgns y (i + 1) k = (sgns y i k || decide (k = ⟨#[c]⟩)) := by
  unfold sgns
  rw [List.take_add_one, Array.getElem?_toList, hc, List.any_append]
  simp
theorem fs_uloop {y : Str} {I : Addr} {St : Nat → Heap → Prop} {R : Result → Shared → Prop} (W : Walks prog w A.in1 I [I] [I] y.cps.size (SignAt y) St) (hn : y.cps.size < 60) (haI : a ≠ I)
    (hnd : ∀ i c, y.cps[i]? = some c → sgns y i ⟨#[c]⟩ = false) :
    ∀ (k i : Nat) (s : Shared) (o : Obj), i + k = y.cps.size → St i s.heap → s.heap.get? a = some o → FsO prog w o (sgns y i) i →
    (∀ h' tk o', (∀ b o, b ≠ I → b ≠ a → s.heap.get? b = some o → h'.get? b = some o) → h'.get? a = some o' → FsO prog w o' (sgns y y.cps.size) y.cps.size → R (.ok (.ret .none)) { s with heap := h', toks := tk }) →
    codeAny (model prog w) A (.builtin "set.update.loop" ⟨[.ref a, .ref I], []⟩) R s := by
  intro k
  induction k with
  | zero =>
    intro i s o hi hst ho hf h
    refine codeAny_builtin entry_set_loop ?_
    rw [Around.under_plainId plain_uloop _]
    show wpAny _ A.in1 (pyNext (.ref I) >>= _) _ _ s
    refine wpAny_bind (W.done s _ _ ((show i = y.cps.size by omega) ▸ hst) fun h' tk hk => ?_)
    show wpAny _ A.in1 (ret Value.none) _ _ _
    have e : i = y.cps.size := by omega
    rw [e] at hf
    exact wpAny_pure (h h' tk o (fun b o hb _ e => hk b o (by simp [hb]) e) (hk a o (by simp [haI]) ho) hf)
  | succ k ih =>
    intro i s o hi hst ho hf h
    refine codeAny_builtin entry_set_loop ?_
    rw [Around.under_plainId plain_uloop _]
    show wpAny _ A.in1 (pyNext (.ref I) >>= _) _ _ s
    refine wpAny_bind (W.item i s _ _ (by omega) hst fun v h' tk hP hst' hk => ?_)
    obtain ⟨c, u, hc, rfl⟩ := hP
    have ho' : h'.get? a = some o := hk a o (by simp [haI]) ho
    show wpAny _ A.in1 (holding [Value.str ⟨#[c]⟩ u] (setAdd a (.str ⟨#[c]⟩ u)) >>= _) _ _ _
    refine wpAny_bind (wpAny_holding ?_)
    unfold setAdd
    refine wpAny_holding ?_
    refine wpAny_bind ((strKind prog w).pyHash (isStr_self _ _) ?_)
    refine fs_add (s := { s with heap := h', toks := tk + 1 }) ho' hf (by omega) (hnd i c hc) fun h2 o2 sb ho2 hf2 => ?_
    have hf3 : FsO prog w o2 (sgns y (i + 1)) (i + 1) := by
      have e : (fun k => sgns y i k || decide (k = ⟨#[c]⟩)) = sgns y (i + 1) := funext fun k => (sgns_succ hc k).symm
      rw [e] at hf2
      exact hf2
    refine wpAny_pure ⟨plainId_quiet plain_uloop _, ih (i + 1) _ o2 (by omega) (W.frame _ _ _ hst' (fun b hb o e => ?_)) ho2 hf3 fun h3 tk3 o3 hk3 ho3 hf3 => ?_⟩
    · rw [sb.2 b (fun h : b = a => haI (by rw [← h]; simpa using hb))]; exact e
    · refine h h3 tk3 o3 (fun b o hb1 hb2 e => hk3 b o hb1 hb2 ?_) ho3 hf3
      rw [sb.2 b hb2]
      exact hk b o (by simp [hb1]) e
theorem code_fs_0 {Q₁ : Value → Shared → Prop}
    (h : ∀ led : Bool, Q₁ (.ref s.heap.objs.size) { s with heap := s.heap.push (fsObj #[] 0 (.fresh 0 0 led)) }) :
    codeAny (model prog w) A (.call (.builtin "frozenset.__new__") ⟨[.type "frozenset"], []⟩) (wants Q₁ E) s := by
  refine codeAny_of_tree ?_
  show wpAny _ A.in1 (do checkBuiltinCall "frozenset.__new__" ⟨[.type "frozenset"], []⟩; again (.builtin "frozenset.__new__" ⟨[.type "frozenset"], []⟩)) _ _ s
  refine wpAny_bind (wpAny_of_eq newCall_fs_0 (wpAny_pure ⟨plainId_quiet plain_fs_new _, codeAny_builtin entry_fs_new ?_⟩))
  rw [Around.under_plainId plain_fs_new _]
  unfold Builtin.«frozenset.__new__» Builtin.Frozenset.newClass noKeywords
  have hsub := sub_fs_self
  have hinit := init_fs
  obtain ⟨hp, g, d, tk, os⟩ := s
  dsimp only
  wp_walk
  refine wpAny_askSetting (wpAny_pure ?_)
  dsimp only
  simp only [newObj]
  refine wpAny_bind (wpAny_alloc (wpAny_pure ?_))
  exact wpAny_pure (h _)
end
end Mine
end
section -- LFroz2
theorem Mine.rstLFroz2 : True := by
  w_top off
  trivial
set_option Elab.async false
set_option maxRecDepth 100000
set_option maxHeartbeats 2000000
namespace Mine
open PySem PySem.W PyProof.Rows PySem.Calls PySem.Builtin
section
variable {prog : Program} {w : World} {A : Around} {E : Value → Shared → Prop} {s : Shared} {a : Addr} {o : Obj} {S : Str → Bool} {n : Nat} {x : Str} {t : Tok}
theorem args_init_1 (a : Value) : argsOk "object.__init__" ⟨[a], []⟩ := by unfold argsOk; kernel_rfl
theorem code_fs_1 {y : Str} {t : Tok} {Q₁ : Value → Shared → Prop} (hh : A.handled = none) (hn : y.cps.size < 60) (hnd : ∀ i c, y.cps[i]? = some c → sgns y i ⟨#[c]⟩ = false)
    (h : ∀ h' tk o', (∀ b o, s.heap.get? b = some o → h'.get? b = some o) → h'.get? s.heap.objs.size = some o' → FsO prog w o' (sgns y y.cps.size) y.cps.size → Q₁ (.ref s.heap.objs.size) { s with heap := h', toks := tk }) :
    codeAny (model prog w) A (.call (.builtin "frozenset.__new__") ⟨[.type "frozenset", .str y t], []⟩) (wants Q₁ E) s := by
  refine codeAny_of_tree ?_
  show wpAny _ A.in1 (do checkBuiltinCall "frozenset.__new__" ⟨[.type "frozenset", .str y t], []⟩; again (.builtin "frozenset.__new__" ⟨[.type "frozenset", .str y t], []⟩)) _ _ s
  refine wpAny_bind (wpAny_of_eq (newCall_fs_1 _) (wpAny_pure ⟨plainId_quiet plain_fs_new _, codeAny_builtin entry_fs_new ?_⟩))
  rw [Around.under_plainId plain_fs_new _]
  unfold Builtin.«frozenset.__new__» Builtin.Frozenset.newClass noKeywords
  have hsub := sub_fs_self
  have hinit := init_fs
  have hT : s.TypeIs (.str y t) "str" := rfl
  have hne : (Value.type "str" == Value.type "frozenset") = false := by decide
  generalize hNF : Builtin.Frozenset.newFrom = NF
  wp_walk using wpAny_typeOf hT
  subst hNF
  unfold Builtin.Frozenset.newFrom
  refine wpAny_bind (m := newSet _) ?_
  unfold newSet setsByText
  refine wpAny_bind (wpAny_bind (wpAny_askSetting (wpAny_pure ?_)))
  dsimp only
  simp only [newObj]
  refine wpAny_bind (wpAny_alloc (wpAny_pure ?_))
  generalize (!_) = led
  have hS : (s.heap.push (fsObj #[] 0 (.fresh 0 0 led))).get? s.heap.objs.size = some (fsObj #[] 0 (.fresh 0 0 led)) := Heap.get?_push_size _ rfl
  refine wpAny_bind (m := Builtin.Frozenset.addrOf _) (wpAny_pure ?_)
  refine wpAny_bind (wpAny_holding ?_)
  unfold Builtin.Frozenset.updateFrom Builtin.Frozenset.isAnySet
  have hsb1 := sub_str_set
  have hsb2 := sub_str_fs
  have hne2 : (Value.type "str" == Value.type "dict") = false := by decide
  generalize hPI : pyIter = PI
  wp_walk using wpAny_typeOf hT
  subst hPI
  refine wpAny_pyIter_str fun ob St W hst => ?_
  refine wpAny_bind (wpAny_runValue ?_)
  refine fs_uloop (W A.in1.in1 (by simp [hh])) hn (by show s.heap.objs.size ≠ (s.heap.push _).objs.size; rw [Heap.size_push]; exact Nat.ne_of_lt (Nat.lt_succ_self _)) hnd y.cps.size 0 _ _ (by omega) hst (Heap.get?_push_of_some _ hS) (fs_fresh led) fun h' tk o' hk ho' hf' => ?_
  refine wpAny_pure ?_
  refine wpAny_pure ?_
  refine wpAny_pure (h h' tk o' (fun b o e => hk b o ?_ ?_ (Heap.get?_push_of_some _ (Heap.get?_push_of_some _ e))) ho' hf')
  · have := Heap.lt_size e
    show b ≠ (s.heap.push _).objs.size
    rw [Heap.size_push]
    exact Nat.ne_of_lt (Nat.lt_succ_of_lt this)
  · exact Nat.ne_of_lt (Heap.lt_size e)
theorem call_fs_0 {Q : Value → Shared → Prop} (h : ∀ o, FsO prog w o (fun _ => false) 0 → Q (.ref s.heap.objs.size) { s with heap := s.heap.push o }) :
    wpAny (model prog w) A (call (.type "frozenset") []) Q E s := by
  refine callType_codes (Q₁ := fun obj s₁ => s₁.TypeIs obj "frozenset" ∧ Q obj s₁) called_fs typeCall_fs_0 F.entry_object_init
    (code_fs_0 fun led => ⟨⟨_, Heap.get?_push_size _ rfl, rfl⟩, h _ (fs_fresh led)⟩) fun obj s₁ h₁ => ?_
  exact ⟨h₁.1, args_init_1 obj, object_init_meets called_fs.init.lookup called_fs.made (by decide) prog w A.in1 _ s₁ ⟨h₁.1, rfl, h₁.2⟩⟩
theorem call_fs_1 {y : Str} {t : Tok} {Q : Value → Shared → Prop} (hh : A.handled = none) (hn : y.cps.size < 60) (hnd : ∀ i c, y.cps[i]? = some c → sgns y i ⟨#[c]⟩ = false)
    (h : ∀ h' tk o', (∀ b o, s.heap.get? b = some o → h'.get? b = some o) → h'.get? s.heap.objs.size = some o' → FsO prog w o' (sgns y y.cps.size) y.cps.size → Q (.ref s.heap.objs.size) { s with heap := h', toks := tk }) :
    wpAny (model prog w) A (call (.type "frozenset") [.str y t]) Q E s := by
  refine callType_codes (Q₁ := fun obj s₁ => s₁.TypeIs obj "frozenset" ∧ Q obj s₁) called_fs (typeCall_fs_1 _) F.entry_object_init
    (code_fs_1 (by simp [hh]) hn hnd fun h' tk o' hk ho' hf' => ⟨fs_type ho' hf', h h' tk o' hk ho' hf'⟩) fun obj s₁ h₁ => ?_
  exact ⟨h₁.1, F.args_object_init_2 obj _, object_init_meets called_fs.init.lookup called_fs.made (by decide) prog w A.in1 _ s₁ ⟨h₁.1, rfl, h₁.2⟩⟩
variable {h₀ : Heap} {L : Addr} {m : Str → Option Value} {news : List (Addr × Obj)}
theorem fs_news {h h' : Heap} (F : Fr h₀ L h m) (N : News h₀ L h news) (hk : ∀ b o, h.get? b = some o → h'.get? b = some o) (ho : h'.get? h.objs.size = some o) :
    Fr h₀ L h' m ∧ News h₀ L h' ((h.objs.size, o) :: news) ∧ ∀ q ∈ news, @LT.lt Nat _ q.1 h.objs.size :=
  ⟨F.kept hk, fun q hq => by
    rcases List.mem_cons.mp hq with rfl | hq
    · exact ⟨ho, Nat.ne_of_gt F.ns.lt, next_is_new F⟩
    · exact N.grown hk q hq, fun q hq => Heap.lt_size (N q hq).1⟩
theorem new_fs_0 {Q : Value → Shared → Prop} (F : Fr h₀ L s.heap m) (N : News h₀ L s.heap news)
    (h : ∀ D h' o, FsO prog w o (fun _ => false) 0 → Fr h₀ L h' m → News h₀ L h' ((D, o) :: news) → (∀ q ∈ news, @LT.lt Nat _ q.1 D) → Q (.ref D) { s with heap := h' }) :
    wpAny (model prog w) A (call (.type "frozenset") []) Q E s := by
  refine call_fs_0 fun o ho => ?_
  have hfr : o.isFreed = false := by obtain ⟨_, _, _, rfl, _⟩ := ho; rfl
  obtain ⟨F', N', lt⟩ := fs_news (o := o) F N (fun b o e => Heap.get?_push_of_some _ e) (Heap.get?_push_size _ hfr)
  exact h _ _ o ho F' N' lt
theorem new_fs_1 {y : Str} {t : Tok} {Q : Value → Shared → Prop} (hh : A.handled = none) (F : Fr h₀ L s.heap m) (N : News h₀ L s.heap news) (hn : y.cps.size < 60) (hnd : ∀ i c, y.cps[i]? = some c → sgns y i ⟨#[c]⟩ = false)
    (h : ∀ D h' tk o, FsO prog w o (sgns y y.cps.size) y.cps.size → Fr h₀ L h' m → News h₀ L h' ((D, o) :: news) → (∀ q ∈ news, @LT.lt Nat _ q.1 D) → Q (.ref D) { s with heap := h', toks := tk }) :
    wpAny (model prog w) A (call (.type "frozenset") [.str y t]) Q E s := by
  refine call_fs_1 hh hn hnd fun h' tk o' hk ho' hf' => ?_
  obtain ⟨F', N', lt⟩ := fs_news (o := o') F N hk ho'
  exact h _ _ tk o' hf' F' N' lt
end
end Mine
end
section -- MFind2
theorem Mine.rstMFind2 : True := by
  w_top off
  trivial
open PySem PySem.W PyProof PyProof.Rows PySem.Calls PySem.Builtin PySem.Builtin.Str PySem.StrLaws
set_option Elab.async false
set_option maxRecDepth 100000
namespace Mine
theorem bd_head {SO TX : Str} {i : Nat} (hi : i < SO.length) : bd (fun j => ch (SO ++ Str.ofString "|" ++ TX) j) i = bd (fun j => ch SO j) i :=
  bd_eq ((bdr_head hi).mpr (bd_is _ _)) fun _ hj => bd_max ((bdr_head hi).mp hj)
noncomputable abbrev tabOf (SO TX : Str) : List Int := tabN (fun j => (SO ++ Str.ofString "|" ++ TX).cps.getD j 0) (SO ++ Str.ofString "|" ++ TX).length (SO ++ Str.ofString "|" ++ TX).length
theorem tabOf_len (SO TX : Str) : (tabOf SO TX).length = SO.length + 1 + TX.length := by rw [tabN_length, len_app3]
theorem tabOf_head {SO TX : Str} {j : Nat} (hj : j < SO.length) : (tabOf SO TX).getD j 0 = (bd (fun j => ch SO j) j : Int) := by
  have hl := len_app3 SO TX
  rw [tabN_get (by omega) (by omega)]
  exact congrArg _ (bd_head hj)
theorem mem_rangeKs {k : Int} {n : Nat} : k ∈ rangeKs 0 n ↔ ∃ i : Nat, i < n ∧ k = i := by
  unfold rangeKs
  rw [List.mem_map]
  constructor
  · rintro ⟨i, hi, rfl⟩
    exact ⟨i, List.mem_range.mp hi, by omega⟩
  · rintro ⟨i, hi, rfl⟩
    exact ⟨i, List.mem_range.mpr hi, by omega⟩
theorem rangeKs_lt (n : Nat) : (rangeKs 0 n).Pairwise (· < ·) := by
  unfold rangeKs
  rw [List.pairwise_map]
  exact List.pairwise_lt_range.imp fun h => by omega
/-- the places that the table gives: where the sought text stands -/
theorem finds_iff {SO TX : Str} (hX : ∀ j, j < TX.length → ch TX j ≠ 124) (k : Int) :
    k ∈ ((rangeKs 0 ((TX.length : Int) - SO.length + 1).toNat).filter fun k => decide ((tabOf SO TX).getD (2 * (SO.length : Int) + k).toNat 0 = SO.length)) ↔ ∃ i : Nat, k = i ∧ Occ TX SO i := by
  have hl := len_app3 SO TX
  rw [List.mem_filter, mem_rangeKs]
  constructor
  · rintro ⟨⟨i, hi, rfl⟩, h⟩
    refine ⟨i, rfl, ?_⟩
    have h2 := of_decide_eq_true h
    rw [show (2 * (SO.length : Int) + (i : Int)).toNat = 2 * SO.length + i from rfl, tabN_get (by omega) (by omega)] at h2
    exact (kmp_iff (by omega) hX).mp (by exact_mod_cast h2)
  · rintro ⟨i, rfl, h⟩
    have h1 := h.1
    refine ⟨⟨i, by omega, rfl⟩, decide_eq_true ?_⟩
    rw [show (2 * (SO.length : Int) + (i : Int)).toNat = 2 * SO.length + i from rfl, tabN_get (by omega) (by omega)]
    exact_mod_cast (kmp_iff h1 hX).mpr h
theorem pw_getD {l : List Int} (h : l.Pairwise (· < ·)) {i j : Nat} (hij : i < j) (hj : j < l.length) : l.getD i 0 < l.getD j 0 := by
  have := (List.pairwise_iff_getElem.mp h) i j (by omega) hj hij
  rw [List.getD_eq_getElem?_getD, List.getD_eq_getElem?_getD, List.getElem?_eq_getElem (by omega), List.getElem?_eq_getElem hj]
  exact this
theorem getD_memI {l : List Int} {i : Nat} (h : i < l.length) : l.getD i 0 ∈ l := by
  rw [List.getD_eq_getElem?_getD, List.getElem?_eq_getElem h]
  exact List.getElem_mem h
/-- what two places that lie near have in common is one of the laps -/
theorem laps_hold {SO TX : Str} {finds laps : List Int} (hpw : finds.Pairwise (· < ·)) (hf : ∀ k ∈ finds, ∃ i : Nat, k = i ∧ Occ TX SO i) (hlaps : ∀ b : Nat, 0 < b → bdr (fun j => ch SO j) (SO.length - 1) b → (b : Int) ∈ laps)
    (i : Nat) (hi : i + 1 < finds.length) (hpos : 0 < (SO.length : Int) - (finds.getD (i + 1) 0 - finds.getD i 0)) : (SO.length : Int) - (finds.getD (i + 1) 0 - finds.getD i 0) ∈ laps := by
  have hlt := pw_getD hpw (Nat.lt_succ_self i) hi
  obtain ⟨p, hp, hop⟩ := hf _ (getD_memI (Nat.lt_of_succ_lt hi))
  obtain ⟨q, hq, hoq⟩ := hf _ (getD_memI hi)
  rw [hp, hq] at hlt hpos ⊢
  obtain ⟨e, rfl⟩ : ∃ e, q = p + e := ⟨q - p, by omega⟩
  rw [show ((p + e : Nat) : Int) - p = e by omega] at hpos ⊢
  obtain ⟨b, hb⟩ : ∃ b, e + b = SO.length := ⟨SO.length - e, by omega⟩
  rw [← hb, show ((e + b : Nat) : Int) - e = b by omega] at hpos ⊢
  exact hlaps b (by omega) (shared_bdr hop hoq (by omega) hb)
end Mine
end
section -- MOrd
theorem Mine.rstMOrd : True := by
  w_top off
  trivial
open PySem PySem.W PyProof PyProof.Rows PySem.Calls PySem.Builtin PySem.Builtin.Str PySem.StrLaws
set_option Elab.async false
set_option maxRecDepth 100000
namespace Mine
theorem ind_none {n : Nat} {i : Int} : strSliceIndices (some i) none 1 n = strSliceIndices (some i) (some (n : Int)) 1 n := by
  have h1 : ¬ ((n : Int) < 0) := by omega
  have h3 : (1 : Int) > 0 := by decide
  simp only [strSliceIndices, h1, h3, if_false, if_true, Int.min_self]
  rw [Int.max_eq_right (a := 0) (b := (n : Int)) (by omega)]
theorem slice_none {x : Str} {i : Int} : Txt.slice x (some i) none = Txt.slice x (some i) (some (x.length : Int)) := by
  unfold Txt.slice
  rw [ind_none]
theorem suf_list {x : Str} {k : Nat} (h : k ≤ x.length) : (Txt.slice x (some (k : Int)) none).cps.toList = x.cps.toList.drop k := by
  rw [slice_none, slice_any h h]
  show List.take (x.length - k) (List.drop k x.cps.toList) = _
  rw [List.take_of_length_le]
  rw [List.length_drop, Array.length_toList]
  exact Nat.le_refl _
theorem key_list {x : Str} {k z : Nat} (h : k ≤ x.length) : (Txt.slice x (some (k : Int)) (some ((k : Int) + z))).cps.toList = (x.cps.toList.drop k).take z := by
  rw [show ((k : Int) + z) = ((k + z : Nat) : Int) by omega, slice_any h (by omega), show k + z - k = z by omega]
/-- a cut keeps the order -/
theorem take_lt : ∀ (z : Nat) (a b : List Nat), a.take z < b.take z → a < b
  | 0, a, b, h => by simp at h
  | z + 1, [], [], h => by simp at h
  | z + 1, [], b :: bs, h => by simp
  | z + 1, a :: as, [], h => by simp at h
  | z + 1, a :: as, b :: bs, h => by
    rw [List.take_succ_cons, List.take_succ_cons, List.cons_lt_cons_iff] at h
    rw [List.cons_lt_cons_iff]
    rcases h with h | ⟨rfl, h⟩
    · exact .inl h
    · exact .inr ⟨rfl, take_lt z as bs h⟩
theorem lt_tri (a b : List Nat) (h1 : ¬ a < b) (h2 : ¬ b < a) : a = b := List.le_antisymm (List.not_lt.mp h2) (List.not_lt.mp h1)
theorem lt_left {a b c : List Nat} (h1 : ¬ b < a) (h2 : b < c) : a < c := List.lt_of_le_of_lt (List.not_lt.mp h1) h2
theorem lt_right {a b c : List Nat} (h1 : ¬ b < a) (h2 : c < a) : c < b := by
  rcases Classical.em (a < b) with h | h
  · exact List.lt_trans h2 h
  · rw [← lt_tri a b h h1]; exact h2
section
variable {TX SO : Str} {pl : List Int}
noncomputable abbrev keyL (TX SO : Str) (k : Int) : List Nat := (Txt.slice TX (some k) (some (k + SO.length))).cps.toList
noncomputable abbrev sufL (TX : Str) (k : Int) : List Nat := (Txt.slice TX (some k) none).cps.toList
theorem key_suf {k l : Int} (h : ¬ sufL TX l < sufL TX k) (hk : 0 ≤ k ∧ k < TX.length) (hl : 0 ≤ l ∧ l < TX.length) : ¬ keyL TX SO l < keyL TX SO k := by
  obtain ⟨i, rfl⟩ := Int.eq_ofNat_of_zero_le hk.1
  obtain ⟨j, rfl⟩ := Int.eq_ofNat_of_zero_le hl.1
  intro h2
  apply h
  simp only [sufL, keyL] at h2 ⊢
  rw [suf_list (by omega), suf_list (by omega)]
  rw [key_list (by omega), key_list (by omega)] at h2
  exact take_lt _ _ _ h2
theorem pl_range (hp : pl.Perm (rangeKs 0 TX.length)) : ∀ k ∈ pl, 0 ≤ k ∧ k < TX.length := fun k hk => by
  obtain ⟨i, hi, rfl⟩ := mem_rangeKs.mp (hp.mem_iff.mp hk)
  omega
theorem pl_len (hp : pl.Perm (rangeKs 0 TX.length)) : pl.length = TX.length := by
  rw [hp.length_eq]; simp [rangeKs]
theorem pl_mono (hp : pl.Perm (rangeKs 0 TX.length)) (hs : pl.Pairwise (fun x y => ¬ sufL TX y < sufL TX x)) {i j : Nat} (hij : i ≤ j) (hj : j < pl.length) : ¬ keyL TX SO (pl.getD j 0) < keyL TX SO (pl.getD i 0) := by
  rcases Nat.lt_or_ge i j with h | h
  · have h1 := (List.pairwise_iff_getElem.mp hs) i j (by omega) hj h
    have e1 : pl.getD i 0 = pl[i]'(by omega) := by rw [List.getD_eq_getElem?_getD, List.getElem?_eq_getElem (by omega)]; rfl
    have e2 : pl.getD j 0 = pl[j]'hj := by rw [List.getD_eq_getElem?_getD, List.getElem?_eq_getElem hj]; rfl
    rw [e1, e2]
    exact key_suf h1 (pl_range hp _ (List.getElem_mem _)) (pl_range hp _ (List.getElem_mem _))
  · have : i = j := by omega
    subst this
    exact List.lt_irrefl _
/-- a key that is the sought text: there it stands -/
theorem key_occ {i : Nat} (hi : i < TX.length) : keyL TX SO (i : Int) = SO.cps.toList ↔ Occ TX SO i := by
  simp only [keyL]
  rw [key_list (by omega)]
  have hz : SO.cps.toList.length = SO.length := Array.length_toList
  have hn : TX.cps.toList.length = TX.length := Array.length_toList
  constructor
  · intro h
    have hl := congrArg List.length h
    rw [List.length_take, List.length_drop, hz, hn] at hl
    refine ⟨by omega, fun j hj => ?_⟩
    have h2 := congrArg (fun l => l[j]?) h
    simp only [List.getElem?_take, if_pos hj, List.getElem?_drop] at h2
    unfold ch
    rw [agetD, agetD, h2]
  · rintro ⟨h1, h2⟩
    apply List.ext_getElem?
    intro j
    rcases Nat.lt_or_ge j SO.length with hj | hj
    · have h3 := h2 j hj
      unfold ch at h3
      rw [agetD, agetD, List.getElem?_eq_getElem (by omega), List.getElem?_eq_getElem (by omega)] at h3
      rw [List.getElem?_take, if_pos hj, List.getElem?_drop, List.getElem?_eq_getElem (by omega), List.getElem?_eq_getElem (by omega)]
      exact congrArg some h3
    · rw [List.getElem?_eq_none (by rw [List.length_take, List.length_drop]; omega), List.getElem?_eq_none (by omega)]
/-- Manber, Myers: between the two halvings lie the places where the sought text stands -/
theorem seg_finds {fi be : Nat} {finds ms : List Int} (hp : pl.Perm (rangeKs 0 TX.length)) (hbe : be ≤ pl.length)
    (hf1 : ∀ i, i < fi → keyL TX SO (pl.getD i 0) < SO.cps.toList) (hf2 : ∀ i, fi ≤ i → i < pl.length → ¬ keyL TX SO (pl.getD i 0) < SO.cps.toList)
    (hb1 : ∀ i, i < be → ¬ SO.cps.toList < keyL TX SO (pl.getD i 0)) (hb2 : ∀ i, be ≤ i → i < pl.length → SO.cps.toList < keyL TX SO (pl.getD i 0))
    (hpw : finds.Pairwise (· < ·)) (hfs : ∀ k : Int, k ∈ finds ↔ ∃ i : Nat, k = i ∧ Occ TX SO i) (hs1 : 1 ≤ SO.length)
    (hm : ms.Perm ((pl.drop fi).take (be - fi))) (ho : ms.Pairwise (· ≤ ·)) : ms = finds := by
  have hnd : pl.Nodup := hp.nodup_iff.mpr ((rangeKs_lt _).imp fun h => Int.ne_of_lt h)
  have hnm : ms.Nodup := hm.nodup_iff.mpr ((List.take_sublist _ _).nodup ((List.drop_sublist _ _).nodup hnd))
  have hlt : ms.Pairwise (· < ·) := by
    have := List.pairwise_and_iff.mpr ⟨ho, hnm⟩
    exact this.imp fun h => by omega
  have hmem : ∀ k : Int, k ∈ ms ↔ k ∈ finds := by
    intro k
    rw [hm.mem_iff, hfs]
    constructor
    · intro hk
      obtain ⟨q, hq⟩ := List.mem_iff_getElem?.mp hk
      rw [List.getElem?_take] at hq
      split at hq
      · rename_i hqb
        rw [List.getElem?_drop] at hq
        have hlen : fi + q < pl.length := (List.getElem?_eq_some_iff.mp hq).1
        have e : pl.getD (fi + q) 0 = k := by rw [List.getD_eq_getElem?_getD, hq]; rfl
        have h1 := hf2 (fi + q) (by omega) hlen
        have h2 := hb1 (fi + q) (by omega)
        rw [e] at h1 h2
        have h3 := lt_tri _ _ h1 h2
        have hr := pl_range hp k (e ▸ getD_memI hlen)
        obtain ⟨i, rfl⟩ := Int.eq_ofNat_of_zero_le hr.1
        exact ⟨i, rfl, (key_occ (by omega)).mp h3⟩
      · cases hq
    · rintro ⟨i, rfl, hocc⟩
      have hi : i < TX.length := by have := hocc.1; omega
      have hk := (key_occ hi).mpr hocc
      have hin : (i : Int) ∈ pl := hp.mem_iff.mpr (mem_rangeKs.mpr ⟨i, hi, rfl⟩)
      obtain ⟨q, hq⟩ := List.mem_iff_getElem?.mp hin
      have hlen : q < pl.length := (List.getElem?_eq_some_iff.mp hq).1
      have e : pl.getD q 0 = (i : Int) := by rw [List.getD_eq_getElem?_getD, hq]; rfl
      have h1 : fi ≤ q := by
        rcases Nat.lt_or_ge q fi with h | h
        · have := hf1 q h
          rw [e, hk] at this
          exact absurd this (List.lt_irrefl _)
        · exact h
      have h2 : q < be := by
        rcases Nat.lt_or_ge q be with h | h
        · exact h
        · have := hb2 q h hlen
          rw [e, hk] at this
          exact absurd this (List.lt_irrefl _)
      refine List.mem_iff_getElem?.mpr ⟨q - fi, ?_⟩
      rw [List.getElem?_take, if_pos (by omega), List.getElem?_drop, show fi + (q - fi) = q by omega]
      exact hq
  have hnf : finds.Nodup := hpw.imp fun h => Int.ne_of_lt h
  have hperm : ms.Perm finds := (List.perm_ext_iff_of_nodup hnm hnf).mpr hmem
  exact hperm.eq_of_pairwise (le := fun a b => a < b) (fun a b _ _ h1 h2 => absurd h1 (by omega)) hlt hpw
end
end Mine
end
theorem Mine.lookA {M : PySem.Model} {A : PySem.Around} {env : PySem.Env} {Q : PySem.Flow → PySem.Shared → Prop} {E : PySem.Value → PySem.Shared → Prop} {s : PySem.Shared} (h : PySem.wpAny M A (PySem.execs [] env) Q E s) : PySem.wpAny M A (PySem.execs [] env) Q E s := by
  w_top off
  first | (walk1; done) | exact h
section -- words
local macro_rules | `(tactic| k_all) => `(tactic| assumption)
local macro_rules | `(tactic| k_all) => `(tactic| (intro q hq; simp_all; done))
local macro_rules | `(tactic| k_mem) => `(tactic| assumption)
local macro_rules | `(tactic| k_room) => `(tactic| ktr_room)
local macro_rules | `(tactic| k_units) => `(tactic| ktr_units)
local macro_rules | `(tactic| walk_at $s:str) => `(tactic| k_extra $s)
section -- CSuff
theorem Mine.rstCSuff : True := by
  w_top off
  trivial
open PySem PySem.W PyProof.Rows PySem.Calls PySem.Builtin.Str
set_option Elab.async false
set_option maxRecDepth 100000
set_option maxHeartbeats 4000000
namespace Mine
theorem fill0 : (PySem.Challenge.rw_nb0185_01 = PySem.Challenge.rw_nb0185_01 ∧ Mine.hd.heap_39 = Mine.hd.heap_39) → True := by k_fill; intro _; trivial
theorem wdCSuffa : True := by
  k_with_none
  k_with "And" => (k_here; (with_reducible show PySem.Str.length (_ ++ _) ≤ sizeLine ∧ wpAny _ _ (joinParts _ _) _ _ _); refine jp_and (by ((try dsimp only); simp only [len_app, len_e, lit1, lit2, lit3, lit4, lit5, sl_eq]; omega)) ?_; intro z hz hl; (try simp only [len_e, lit1, lit2, lit3, lit4, lit5] at hl))
  k_with "joinParts" => (k_here; (first | (with_reducible show wpAny _ _ (joinParts _ []) _ _ _) | (with_reducible show wpAny _ _ (joinParts _ (evalEach [] _)) _ _ _)); refine joinParts_nilE (joinParts_nil ?_ ?hs); (case hs => ((try dsimp only); simp only [len_app, len_e, lit1, lit2, lit3, lit4, lit5, sl_eq]; omega)))
  k_with "call builtin:str.count" => (k_here; (with_reducible show wpAny _ _ (call (Value.builtin _) [Value.str _ _, Value.str _ _, Value.int _ _, Value.int _ _]) _ _ _); refine count4b ?_; intro c hc hcb)
  k_with "formatField int" => (k_here; refine fmt_int ?f0 ?f1 ?_; (case f0 => omega); (case f1 => omega); intro d hd hdl)
  k_with "call builtin:str.rindex" => (k_here; refine rindex4o (by assumption) (by assumption) (by assumption) ?_; intro k hk hkb; simp only [lit9] at hkb)
  k_with "call ref" => (k_here; (with_reducible show wpAny _ _ (call (Value.ref 24) _) _ _ _); refine Stop.mk' ?_)
  trivial
section
variable {M : Model} {A : Around} {E : Value → Shared → Prop} {s : Shared} {h₀ : Heap} {L a c : Addr} {m mg mb : Str → Option Value} {cn : Str} {cs : Scope} {ccd : Value} {cl : List (Str × Addr)} {news : List (Addr × Obj)}
  {p : Program} {loose : List Str} {mean : ExcName → Option Value} {name qual : Str} {params : Arguments} {body : List Stmt} {scope : Scope} {ps : Array Value} {el ec : Nat} {firstLine : Nat} {clos : List (Str × Addr)}
/-- the def inside: its code is made anew, or met in the table -/
theorem nest_I {Q : Value → Shared → Prop} (F : Fr h₀ L s.heap m) (N : News h₀ L s.heap ((36, tabObj ps) :: news)) (T : Top p loose mean mg mb h₀) (C : CodeHd h₀ c 36) (hcd : ccd = .ref c) (l0 : ∀ q ∈ news, q.1 ≠ 36) (I : TabI ps news)
    (hcl : closureFor scope (envX cn cs L a ccd cl) = pure clos)
    (h : ∀ f c' oc vs t ctv doc h' tk, Fr h₀ L h' m →
      News h₀ L h' ((f, fnMade name (Str.ofString "suffixed_err.<locals>.coord_repr") params body scope clos doc ((mg "__name__").getD .none) c' ctv) :: (c', oc) :: (36, tabObj #[rawInt 18, rawInt 4, .ref c']) :: news) →
      oc.data = .fields vs → vs[1]? = some (.str (Str.ofString "suffixed_err.<locals>.coord_repr") t) → @Ne Nat c' 36 → Q (.ref f) { s with heap := h', toks := tk }) :
    wpAny M A (makeFunction name (Str.ofString "suffixed_err.<locals>.coord_repr") params (.stmts body) scope (envX cn cs L a ccd cl) [] [] [] ⟨18, 4, el, ec⟩ firstLine) Q E s := by
  rcases I with rfl | ⟨c', oc, vs, tc, rfl, hmem, hdat, hqn⟩
  · refine nest_K F N T C hcd (.head l0) True.intro rfl hcl ?_
    intro f c' oc vs t ctv doc h' tk F' N' d1 d2 l1 _
    exact h f c' oc vs t ctv doc h' tk F' N' d1 d2 (Nat.ne_of_gt (l1 (36, tabObj #[]) (.head _)))
  · refine nestHit_K F N T C hcd (.head _) (by first | exact True.intro | kn_triples) (by first | rfl | kn_hit) hcl ?_
    intro f ctv doc h' tk F' N' l1
    refine h f c' oc vs tc ctv doc h' tk F' (fun q hq => N' q ?_) hdat hqn (l0 _ hmem)
    rcases List.mem_cons.mp hq with rfl | hq
    · exact .head _
    rcases List.mem_cons.mp hq with rfl | hq
    · exact .tail _ (.tail _ hmem)
    · exact .tail _ hq
theorem k_def {Q : Flow → Shared → Prop} {env : Env} {pos : Pos} (h : wpAny M A (makeFunction name (qualnameIn env name name) params (.stmts body) scope env [] [] [] pos pos.line) (fun v s' => wpAny M A (storeName env name v) (fun _ s'' => Q .next s'') E s') E s)
    (hd0 : params.defaults = [] := by rfl) (hk0 : params.kw_defaults = [] := by rfl) (ha : annTrees params none env = [] := by rfl) : wpAny M A (exec (.FunctionDef name params body [] none [] scope none name pos) env) Q E s := nestDef_K hd0 hk0 ha h
end
section
variable {h₀ : Heap} {L : Addr} {m : Str → Option Value} {s : Shared} {Q : Value → Shared → Prop} {news : List (Addr × Obj)} {p msg : Str} {pos : Int}
noncomputable abbrev SuffRet (h₀ : Heap) (L : Addr) (m : Str → Option Value) (s : Shared) (Q : Value → Shared → Prop) (news : List (Addr × Obj)) (p msg : Str) (pos : Int) : Prop :=
  ∀ e t tkn ps' news' h' tk, TabI ps' news' → (∀ q ∈ news', q.1 ≠ 36 ∧ q.1 ≠ e ∧ q.1 ≠ t) → (∀ q ∈ news, q ∈ news') → e ≠ 36 → t ≠ 36 → Fr h₀ L h' m →
    News h₀ L h' ((e, excO 24 t) :: (t, tupO (.str (suffMsg p pos msg) tkn)) :: (36, tabObj ps') :: news') → Q (.ref e) { s with heap := h', toks := tk }
theorem suff_end1 {e t f c : Addr} {fo oc : Obj} {z : Str} {tkn t' : Tok} {h' : Heap} {tk : Nat} {vs : Array Value} (ret : SuffRet h₀ L m s Q news p msg pos) (F : Fr h₀ L h' m)
    (N : News h₀ L h' ((e, excO 24 t) :: (t, tupO (.str z tkn)) :: (f, fo) :: (c, oc) :: (36, tabObj #[rawInt 18, rawInt 4, .ref c]) :: news))
    (d1 : oc.data = .fields vs) (d2 : vs[1]? = some (.str (Str.ofString "suffixed_err.<locals>.coord_repr") t')) (hne : ∀ q ∈ (f, fo) :: (c, oc) :: (36, tabObj #[rawInt 18, rawInt 4, .ref c]) :: news, q.1 ≠ e ∧ q.1 ≠ t)
    (l0 : ∀ q ∈ news, q.1 ≠ 36) (l1 : @Ne Nat c 36) (hz : suffMsg p pos msg = z) : Q (.ref e) { s with heap := h', toks := tk } := by
  have h36 := hne (36, _) (.tail _ (.tail _ (.head _)))
  refine ret e t tkn #[rawInt 18, rawInt 4, .ref c] ((c, oc) :: news) h' tk (.inr ⟨c, oc, vs, t', rfl, .head _, d1, d2⟩) (fun q hq => ?_) (fun q hq => .tail _ hq) h36.1.symm h36.2.symm F (fun q hq => N q ?_)
  · rcases List.mem_cons.mp hq with rfl | hq'
    · exact ⟨l1, hne (c, oc) (.tail _ (.head _))⟩
    · exact ⟨l0 q hq', hne q (.tail _ (.tail _ (.tail _ hq')))⟩
  · rw [hz] at hq
    rcases List.mem_cons.mp hq with rfl | hq
    · exact .head _
    rcases List.mem_cons.mp hq with rfl | hq
    · exact .tail _ (.head _)
    rcases List.mem_cons.mp hq with rfl | hq
    · exact .tail _ (.tail _ (.tail _ (.tail _ (.head _))))
    rcases List.mem_cons.mp hq with rfl | hq
    · exact .tail _ (.tail _ (.tail _ (.head _)))
    · exact .tail _ (.tail _ (.tail _ (.tail _ (.tail _ hq))))
theorem msg1 {z z3 z2 z1 : Str} (hp : (p.length : Int) ≤ pos) (e1 : z3 = Str.empty ++ msg) (e2 : z2 = z3 ++ Str.ofString " (at ") (e3 : z1 = z2 ++ Str.ofString "end of document") (e4 : z = z1 ++ Str.ofString ")") : suffMsg p pos msg = z := by
  subst e1 e2 e3 e4
  unfold suffMsg coordS
  rw [if_pos hp]
theorem msg2 {z z7 z6 z5 z4 z3 z2 z1 d1 d2 : Str} {c : Nat} (hp : ¬ (p.length : Int) ≤ pos) (hc : c = (occurrences p (Str.ofString "\n") (fromIndex p.length 0) (min (fromIndex p.length pos) p.length) (p.length + 1)).length) (h1 : (c : Int) + 1 = 1)
    (e1 : z7 = Str.empty ++ msg) (e2 : z6 = z7 ++ Str.ofString " (at ") (e5 : z5 = Str.empty ++ Str.ofString "line ") (ed1 : d1 = Str.ofString (toString ((c : Int) + 1))) (e4 : z4 = z5 ++ d1) (e3 : z3 = z4 ++ Str.ofString ", column ")
    (ed2 : d2 = Str.ofString (toString (pos + 1))) (e6 : z2 = z3 ++ d2) (e7 : z1 = z6 ++ z2) (e8 : z = z1 ++ Str.ofString ")") : suffMsg p pos msg = z := by
  unfold suffMsg coordS
  rw [if_neg hp]
  dsimp only
  rw [← hc, if_pos (by omega : c = 0)]
  subst e1 e2 e5 ed1 e4 e3 ed2 e6 e7 e8
  rfl
theorem msg3 {z z7 z6 z5 z4 z3 z2 z1 d1 d2 : Str} {c k : Nat} (hp : ¬ (p.length : Int) ≤ pos) (hc : c = (occurrences p (Str.ofString "\n") (fromIndex p.length 0) (min (fromIndex p.length pos) p.length) (p.length + 1)).length) (h1 : (c : Int) + 1 ≠ 1)
    (hk : lastOccurrence p (Str.ofString "\n") (fromIndex p.length 0) (min (fromIndex p.length pos) p.length) = some k)
    (e1 : z7 = Str.empty ++ msg) (e2 : z6 = z7 ++ Str.ofString " (at ") (e5 : z5 = Str.empty ++ Str.ofString "line ") (ed1 : d1 = Str.ofString (toString ((c : Int) + 1))) (e4 : z4 = z5 ++ d1) (e3 : z3 = z4 ++ Str.ofString ", column ")
    (ed2 : d2 = Str.ofString (toString (pos - (k : Int)))) (e6 : z2 = z3 ++ d2) (e7 : z1 = z6 ++ z2) (e8 : z = z1 ++ Str.ofString ")") : suffMsg p pos msg = z := by
  unfold suffMsg coordS
  rw [if_neg hp]
  dsimp only
  rw [← hc, if_neg (by omega : ¬ c = 0), hk]
  subst e1 e2 e5 ed1 e4 e3 ed2 e6 e7 e8
  rfl
end
theorem call_suff {w : World} {mean : ExcName → Option Value} {mg mb : Str → Option Value} {dp un : Nat} {gd : Option (List Code)} {cn : Str} {cs : Scope} {a : Addr} {ccd : Value} {cl : List (Str × Addr)} {outer : List Env} {A₀ : Around} {base h₀ : Heap} {L : Addr} {m : Str → Option Value} {s : Shared} {Q E : Value → Shared → Prop} {news : List (Addr × Obj)} {p msg : Str} {t t2 t3 : Tok} {pos : Int} {hdl : Option Value} {ps : Array Value}
  (B : Below A₀ base outer h₀) (F : Fr h₀ L s.heap m) (X : (Mine.hd.heap_39 w.params).In h₀) (C : CodeHd h₀ 40 36) (N : News h₀ L s.heap ((36, tabObj ps) :: news)) (l0 : ∀ q ∈ news, q.1 ≠ 36) (I : TabI ps news) (T : Top topProg looseX mean mg mb h₀) (hk : cs.kind = .function) (hdp : dp + 2 < recursionLimit) (hun : un + 16 < cLine)
  (hp : p.length ≤ 100) (h0 : 0 ≤ pos) (h1 : pos ≤ p.length) (hm : msg.length ≤ 100)
  (ret : SuffRet h₀ L m s Q news p msg pos) :
  wpAny (model Challenge.rw_nb0185_01.row.prog w) (myTop hdl dp un gd cn cs L a ccd cl outer) (call (.ref 41) [.str p t, .int pos t2, .str msg t3]) Q E s := by
  refine wpAny_call ?_
  k_dflt cell_enter
  rename_i FG' F' N' B' X' T'
  have C' := C.keeps FG'.keep
  refine wpAny_execs_cons (k_def ?_)
  refine nest_I (by assumption) N' T' C' rfl l0 I rfl ?_
  intro f1 c1 oc1 vs1 tc1 ctv1 doc1 h2 tk2 F2 N2 d1 d2 l1
  clear F' N' N I
  k_steps
  all_goals (unfold Stop; refine mk_toml (by assumption) (by assumption) (by assumption) (by assumption) ?_; intro e t h' F5 N5 hne het)
  all_goals (k_unfold; (try dsimp only); refine leaveK_ F5 N5 ?_; intro F6 N6)
  all_goals (show Q _ _; refine suff_end1 ret F6 N6 d1 d2 hne l0 l1 ?_)
  · exact msg1 (by assumption) (by assumption) (by assumption) (by assumption) (by assumption)
  · exact msg2 (by assumption) (by assumption) (by assumption) (by assumption) (by assumption) (by assumption) (by assumption) (by assumption) (by assumption) (by assumption) (by assumption) (by assumption) (by assumption)
  · exact msg3 (by assumption) (by assumption) (by assumption) (by assumption) (by assumption) (by assumption) (by assumption) (by assumption) (by assumption) (by assumption) (by assumption) (by assumption) (by assumption) (by assumption)
end Mine
end
section -- CSkip
theorem Mine.rstCSkip : True := by
  w_top off
  trivial
open PySem PySem.W PyProof.Rows PySem.Calls PySem.Builtin.Str PyProof
set_option Elab.async false
set_option maxRecDepth 100000
set_option maxHeartbeats 1000000
namespace Mine
theorem fill1 : (PySem.Challenge.rw_nb0185_01 = PySem.Challenge.rw_nb0185_01 ∧ Mine.hd.heap_39 = Mine.hd.heap_39) → True := by k_fill; intro _; trivial
theorem wdCSkipa : True := by
  k_with_none
  k_with "And" => (k_here; (with_reducible show PySem.Str.length (_ ++ _) ≤ sizeLine ∧ wpAny _ _ (joinParts _ _) _ _ _); refine jp_and (by ((try dsimp only); simp only [len_app, len_e, lit1, lit2, lit3, lit4, lit5, lit6, lit8, sl_eq]; omega)) ?_; intro z hz hl; (try simp only [len_e, lit1, lit2, lit3, lit4, lit5, lit6, lit8] at hl))
  k_with "joinParts" => (k_here; (first | (with_reducible show wpAny _ _ (joinParts _ []) _ _ _) | (with_reducible show wpAny _ _ (joinParts _ (evalEach [] _)) _ _ _)); refine joinParts_nilE (joinParts_nil ?_ ?hs); (case hs => ((try dsimp only); simp only [len_app, len_e, lit1, lit2, lit3, lit4, lit5, lit6, lit8, sl_eq]; omega)))
  k_with "call ref" => (k_here; (with_reducible show wpAny _ _ (call (Value.ref 41) _) _ _ _); refine Stop.mk' ?_)
  k_with "call builtin:str.index" => (k_here; refine Stop.mk' ?_)
  trivial

theorem repr_o {prog : Program} {w : World} {A : Around} {E : Value → Shared → Prop} {s : Shared} {x : Str} {t : Tok} {Q : Value → Shared → Prop} (hx : (reprText x).length ≤ 60)
    (k : ∀ z, z = reprText x → z.length ≤ 60 → Q (.str z s.toks) { s with toks := s.toks + 1 }) : wpAny (model prog w) A (pyReprObj (.str x t)) Q E s :=
  wpAny_pyReprObj_str (k _ rfl hx) (Nat.le_trans hx (by decide))
theorem wdCSkipb : True := by
  k_with "pyReprObj str" => (refine repr_o (by assumption) ?_; intro z hz hl)
  k_with "pyReprObj" => (refine repr_o (by assumption) ?_; intro z hz hl)
  trivial
/-- a state in the frame, on a ground that may have turned -/
inductive SkSt (w : World) (mean : ExcName → Option Value) (mg mb : Str → Option Value) (A : Around) (base : Heap) (out : List Env) (g : Heap) (s : Shared) (L : Addr) (M : Str → Option Value) (led : List (Addr × Obj)) (s' : Shared) : Prop
  | mk (g2 h2 : Heap) (tk : Nat) (hs : s' = { s with heap := h2, toks := tk }) (T : KtsTurn (out.filterMap (·.frame)) g g2) (F : Fr g2 L h2 M) (N : News g2 L h2 led) (B : Below A base out g2) (X : (Mine.hd.heap_39 w.params).In g2) (P : Top topProg looseX mean mg mb g2) (D : KtsDicts (out.filterMap (·.frame)) g2)
noncomputable abbrev occ1 (p x : Str) (pos : Int) : List Nat := occurrences p x (fromIndex p.length pos) p.length 1
/-- where the search ends -/
noncomputable def SkMid (p x : Str) (pos : Int) (b : Bool) (np : Nat) : Prop := (∃ r, occ1 p x pos = np :: r) ∨ (occ1 p x pos = [] ∧ np = p.length ∧ b = false)
noncomputable def SkJ (w : World) (mean : ExcName → Option Value) (mg mb : Str → Option Value) (A : Around) (base : Heap) (out : List Env) (g : Heap) (s : Shared) (L : Addr) (M : Str → Option Value) (led : List (Addr × Obj)) (p x : Str) (pos : Int) (b : Bool) (s' : Shared) : Prop :=
  ∃ np tn, SkMid p x pos b np ∧ SkSt w mean mg mb A base out g s L (fun y => if y = Str.ofString "new_pos" then some (.int (np : Nat) tn) else M y) led s'
theorem SkJ.elim {w : World} {mean : ExcName → Option Value} {mg mb : Str → Option Value} {A : Around} {base : Heap} {out : List Env} {g : Heap} {s s' : Shared} {L : Addr} {M : Str → Option Value} {led : List (Addr × Obj)} {p x : Str} {pos : Int} {b : Bool} {P : Shared → Prop} (h : SkJ w mean mg mb A base out g s L M led p x pos b s')
    (k : ∀ np tn g2 h2 tk, SkMid p x pos b np → KtsTurn (out.filterMap (·.frame)) g g2 → Fr g2 L h2 (fun y => if y = Str.ofString "new_pos" then some (.int (np : Nat) tn) else M y) → News g2 L h2 led → Below A base out g2 → (Mine.hd.heap_39 w.params).In g2 → Top topProg looseX mean mg mb g2 → KtsDicts (out.filterMap (·.frame)) g2 → P { s with heap := h2, toks := tk }) : P s' := by
  obtain ⟨np, tn, hm, g2, h2, tk2, rfl, T2, F2, N2, B2, X2, P2, D2⟩ := h
  exact k np tn g2 h2 tk2 hm T2 F2 N2 B2 X2 P2 D2
theorem TabI.more {ps : Array Value} {news news' : List (Addr × Obj)} (I : TabI ps news) (h : ∀ q ∈ news, q ∈ news') : TabI ps news' := by
  rcases I with rfl | ⟨c, oc, vs, t, h1, h2, h3⟩
  · exact .inl rfl
  · exact .inr ⟨c, oc, vs, t, h1, h _ h2, h3⟩
theorem turned_exc {g h h' : Heap} {L e t ve : Addr} {M : Str → Option Value} {v : Value} {rest : List (Addr × Obj)} (F : Fr g L h M) (N : News g L h ((e, excO 24 t) :: (t, tupO v) :: rest)) (hne : ∀ q ∈ rest, q.1 ≠ e)
    (sb : Heap.SameBut e h h') (he : h'.get? e = some (excO2 t ve)) : Fr g L h' M ∧ News g L h' ((e, excO2 t ve) :: (t, tupO v) :: rest) := by
  have ne := N _ (.head _)
  have nt := N _ (.tail _ (.head _))
  have hte : t ≠ e := fun z => by
    have := nt.1
    rw [show (t, tupO v).1 = (e, excO 24 t).1 from z, ne.1] at this
    cases this
  refine ⟨⟨?_, fun b o q => (sb.2 b (fun z => by rw [z, ne.2.2] at q; cases q)).trans (F.keep b o q), F.above⟩, fun q hq => ?_⟩
  · obtain ⟨o, es, ep, h1, h2⟩ := F.ns
    exact ⟨o, es, ep, (sb.2 L (Ne.symm ne.2.1)).trans h1, h2⟩
  · rcases List.mem_cons.mp hq with rfl | hq
    · exact ⟨he, ne.2⟩
    rcases List.mem_cons.mp hq with rfl | hq
    · exact ⟨(sb.2 _ hte).trans nt.1, nt.2⟩
    · have nq := N q (.tail _ (.tail _ hq))
      exact ⟨(sb.2 _ (hne q hq)).trans nq.1, nq.2⟩
inductive SkipMsg (p x : Str) (pos : Int) (b : Bool) (S : Str → Bool) : Str → Prop
  | eof : occ1 p x pos = [] → b = true → SkipMsg p x pos b S (suffMsg p p.length (Str.empty ++ Str.ofString "Expected " ++ reprText x))
  | bar (np j : Nat) : SkMid p x pos b np → pos ≤ j → j < np → np ≤ p.length → S (chS p j) = true → (∀ i : Nat, pos ≤ i → i < j → S (chS p i) = false) → SkipMsg p x pos b S (suffMsg p j (Str.empty ++ Str.ofString "Found invalid character " ++ reprText (chS p j)))
theorem skMid_le {p x : Str} {pos : Int} {b : Bool} {np : Nat} (h0 : 0 ≤ pos) (h1 : pos ≤ p.length) (h : SkMid p x pos b np) : np ≤ p.length ∧ pos ≤ np := by
  rcases h with ⟨r, h⟩ | ⟨_, h, _⟩
  · obtain ⟨i, rfl⟩ := Int.eq_ofNat_of_zero_le h0
    unfold occ1 at h
    rw [from_nat] at h
    rcases occ_hi p x i p.length 1 (by decide) with ⟨h2, _⟩ | ⟨j, r', h2, h3, h4, _⟩
    · rw [h2] at h; cases h
    · rw [h2] at h
      injection h with h _
      subst h
      have := h4.1
      omega
  · omega
theorem skAll {p : Str} {S : Str → Bool} {pos : Int} {np : Nat} {bd : Bool} (h0 : 0 ≤ pos) (h1 : pos ≤ np) (h2 : np ≤ p.length) (h : bd = (Txt.slice p (some pos) (some (np : Int))).cps.toList.all fun c => !S ⟨#[c]⟩) :
    bd = true ↔ ∀ k : Nat, pos ≤ k → k < np → S (chS p k) = false := by
  obtain ⟨i, rfl⟩ := Int.eq_ofNat_of_zero_le h0
  rw [h, slice_all (by omega) h2]
  constructor
  · intro h k h3 h4; exact h k (by omega) h4
  · intro h k h3 h4; exact h k (by omega) h4
theorem grow_fr {g h h' : Heap} {L : Addr} {m : Str → Option Value} (F : Fr g L h m) (k : ∀ b o, h.get? b = some o → h'.get? b = some o) : Fr g L h' m := by
  obtain ⟨⟨o, es, ep, h1, h2⟩, h3, h4⟩ := F
  exact ⟨⟨o, es, ep, k _ _ h1, h2⟩, fun b o e => k _ _ (h3 b o e), h4⟩
theorem grow_news {g h h' : Heap} {L : Addr} {n : List (Addr × Obj)} (N : News g L h n) (k : ∀ b o, h.get? b = some o → h'.get? b = some o) : News g L h' n := fun q hq => ⟨k _ _ (N q hq).1, (N q hq).2⟩
theorem wdCSkipc : True := by
  k_with "call builtin:frozenset.isdisjoint" => (k_here; refine Stop.mk' ?_)
  trivial
theorem fr_same {g h : Heap} {L : Addr} {m : Str → Option Value} {x : Str} {v : Value} (F : Fr g L h m) (hm : m x = some v) : Fr g L h (fun y => if y = x then some v else m y) := by
  have : (fun y => if y = x then some v else m y) = m := by
    funext y
    by_cases h : y = x
    · rw [if_pos h, h, hm]
    · rw [if_neg h]
  rw [this]
  exact F
theorem fr_twice {g h : Heap} {L : Addr} {m : Str → Option Value} {x : Str} {u v : Option Value} (F : Fr g L h (fun y => if y = x then v else (fun y => if y = x then u else m y) y)) : Fr g L h (fun y => if y = x then v else m y) := by
  have : (fun y => if y = x then v else (fun y => if y = x then u else m y) y) = (fun y => if y = x then v else m y) := by
    funext y
    by_cases h : y = x
    · simp only [if_pos h]
    · simp only [if_neg h]
  rw [this] at F
  exact F
theorem wdCSkipd : True := by
  k_with "exec While" => (k_here; refine Stop.mk' ?_)
  k_with "exec While Compare" => (k_here; refine Stop.mk' ?_)
  trivial
theorem ch_mem {p : Str} {k c : Nat} (h : k < p.length) (hc : c ∈ (chS p k).cps.toList) : c ∈ p.cps.toList := by
  have h' : k < p.cps.size := h
  have : c = p.cps[k] := by simpa [chS, Array.getD, h'] using hc
  rw [this]
  simp
theorem wdCSkipe : True := by
  k_with "exec Raise" => (k_here; (with_reducible show wpAny _ _ (exec (Stmt.Raise _ none _) _) _ _ _); refine Stop.mk' ?_)
  k_with "exec Raise some none" => (k_here; (with_reducible show wpAny _ _ (exec (Stmt.Raise _ none _) _) _ _ _); refine Stop.mk' ?_)
  trivial
noncomputable def SkW (g : Heap) (L : Addr) (s : Shared) (p x : Str) (pos : Int) (t t2 t3 : Tok) (b : Bool) (fs : Addr) (np : Nat) (tn : Tok) (j0 : Nat) (S : Str → Bool) (led : List (Addr × Obj)) (n : Nat) (s' : Shared) : Prop :=
  ∃ (k : Nat) (tp : Tok) (h4 : Heap) (tk4 : Nat), s' = { s with heap := h4, toks := tk4 } ∧ pos ≤ k ∧ k ≤ j0 ∧ n = np - k ∧ (∀ i : Nat, pos ≤ i → i < k → S (chS p i) = false) ∧ Fr g L h4 (fun y => if y = Str.ofString "pos" then some (.int k tp) else if y = Str.ofString "new_pos" then some (Value.int np tn) else [(Str.ofString "error_on_eof", Value.bool b), (Str.ofString "error_on", .ref fs), (Str.ofString "expect", .str x t3), (Str.ofString "pos", .int pos t2), (Str.ofString "src", .str p t)].lookup y) ∧ News g L h4 led
theorem SkW.elim {g : Heap} {L : Addr} {s s' : Shared} {p x : Str} {pos : Int} {t t2 t3 : Tok} {b : Bool} {fs : Addr} {np : Nat} {tn : Tok} {j0 : Nat} {S : Str → Bool} {led : List (Addr × Obj)} {n : Nat} {P : Shared → Prop} (h : SkW g L s p x pos t t2 t3 b fs np tn j0 S led n s')
    (q : ∀ (k : Nat) (tp : Tok) (h4 : Heap) (tk4 : Nat), pos ≤ k → k ≤ j0 → n = np - k → (∀ i : Nat, pos ≤ i → i < k → S (chS p i) = false) → Fr g L h4 (fun y => if y = Str.ofString "pos" then some (.int k tp) else if y = Str.ofString "new_pos" then some (Value.int np tn) else [(Str.ofString "error_on_eof", Value.bool b), (Str.ofString "error_on", .ref fs), (Str.ofString "expect", .str x t3), (Str.ofString "pos", .int pos t2), (Str.ofString "src", .str p t)].lookup y) → News g L h4 led → P { s with heap := h4, toks := tk4 }) : P s' := by
  obtain ⟨k, tp, h4, tk4, rfl, h1, h2, h3, h5, h6, h7⟩ := h
  exact q k tp h4 tk4 h1 h2 h3 h5 h6 h7
theorem call_skip {w : World} {mean : ExcName → Option Value} {mg mb : Str → Option Value} {dp un : Nat} {gd : Option (List Code)} {cn : Str} {cs : Scope} {a : Addr} {ccd : Value} {outer : List Env} {A₀ : Around} {base h₀ g₀ : Heap} {L : Addr} {m : Str → Option Value} {s : Shared} {Q E : Value → Shared → Prop} {news : List (Addr × Obj)} {p x : Str} {t t2 t3 : Tok} {pos : Int} {b : Bool} {fs : Addr} {fso : Obj} {S : Str → Bool} {n : Nat} {ps : Array Value}
  (B : Below A₀ base outer h₀) (F : Fr h₀ L s.heap m) (X : (Mine.hd.heap_39 w.params).In h₀) (XB : (Mine.hd.heap_39 w.params).In base) (CB : CodeHd base 40 36) (N : News h₀ L s.heap ((36, tabObj ps) :: news)) (l0 : ∀ q ∈ news, q.1 ≠ 36) (I : TabI ps news)
  (T : Top topProg looseX mean mg mb h₀) (TB : Top topProg looseX mean mg mb base) (D : KtsDicts (outer.filterMap (·.frame)) h₀) (T0 : KtsTurn (outer.filterMap (·.frame)) g₀ h₀)
  (hk : cs.kind = .function) (hdp : dp + 3 < recursionLimit) (hun : un + 24 < cLine)
  (hp : p.length ≤ 60) (h0 : 0 ≤ pos) (h1 : pos ≤ p.length) (hx : x.length ≤ 5) (hxc : ∀ c ∈ x.cps.toList, c < 16 ^ 8) (hpc : ∀ c ∈ p.cps.toList, c < 16 ^ 8) (hfs : (fs, fso) ∈ news) (hS : FsO Challenge.rw_nb0185_01.row.prog w fso S n) (hn : n < 64)
  (ret : ∀ np tn h₀' h' ps' news' tk, SkMid p x pos b np → np ≤ p.length → (∀ i : Nat, pos ≤ i → i < np → S (chS p i) = false) → KtsTurn (outer.filterMap (·.frame)) g₀ h₀' → Fr h₀' L h' m → News h₀' L h' ((36, tabObj ps') :: news') → TabI ps' news' → (∀ q ∈ news', q.1 ≠ 36) → (∀ q ∈ news, q ∈ news') → Below A₀ base outer h₀' → (Mine.hd.heap_39 w.params).In h₀' → Top topProg looseX mean mg mb h₀' → KtsDicts (outer.filterMap (·.frame)) h₀' → Q (.int np tn) { s with heap := h', toks := tk })
  (exc : ∀ e t' msg tkn G h₀' h' ps' news' tk, SkipMsg p x pos b S msg → KtsTurn (outer.filterMap (·.frame)) g₀ h₀' → Fr h₀' L G m → Below A₀ base outer h₀' → RaisedS base G (envOf cn cs L a ccd :: outer) e (.ref 24) t' [.str msg tkn] ((36, tabObj ps') :: news') h' → G.UpToSlots h' → TabI ps' news' → (∀ q ∈ news', q.1 ≠ 36) → (∀ q ∈ news, q ∈ news') → (Mine.hd.heap_39 w.params).In h₀' → Top topProg looseX mean mg mb h₀' → KtsDicts (outer.filterMap (·.frame)) h₀' → E (.ref e) { s with heap := h', toks := tk }) :
  wpAny (model Challenge.rw_nb0185_01.row.prog w) (myTop none dp un gd cn cs L a ccd [] outer) (call (.ref 34) [.str p t, .int pos t2, .str x t3] [(Str.ofString "error_on", .ref fs), (Str.ofString "error_on_eof", .bool b)]) Q E s := by
  have hun' : un + 24 < cLine := hun
  have hxr : (reprText x).length ≤ 60 := Nat.le_trans (StrLaws.reprText_len x hxc) (by omega)
  refine wpAny_call ?_
  k_dflt (refine' code_defS (cn := cn) (cs := cs) (a := a) (ccd := ccd) ?k1 ?k2 ?k3 ?k4 ?k5 ?XB ?TB ?D ?T0 ?kA ?k6 ?k7 ?k8 ?k9 ?kB ?_ ?cK ?c2 ?c3 ?c4 ?c5; (case kA => exact rfl); (case k2 => k_asm); (case k1 => k_asm); (case XB => assumption); (case TB => assumption); (case D => assumption); (case T0 => assumption); (case k3 => k_asm); (case k4 => k_asm); (case k5 => k_asm); (case k6 => k_is); (case k7 => k_is); (case k8 => k_room); (case k9 => exact BindsTo.of_eq rfl); (case kB => exact locs rfl); (case cK => exact hk); (case c2 => exact rfl); (case c3 => exact rfl); (case c4 => exact rfl); (case c5 => decide); k_whole; intro g' L' h' FG' F' N' B' X' T' D'; (try dsimp only); (try k_fold))
  have F0 : Fr g' L' h' (fun y => [(Str.ofString "error_on_eof", Value.bool b), (Str.ofString "error_on", .ref fs), (Str.ofString "expect", .str x t3), (Str.ofString "pos", .int pos t2), (Str.ofString "src", .str p t)].lookup y) := F'
  clear F'
  refine join_at (SkJ w mean mg mb (myTop none dp un gd cn cs L a ccd [] outer) base (envOf cn cs L a ccd :: outer) g' s L' (fun y => [(Str.ofString "error_on_eof", Value.bool b), (Str.ofString "error_on", .ref fs), (Str.ofString "expect", .str x t3), (Str.ofString "pos", .int pos t2), (Str.ofString "src", .str p t)].lookup y) ((36, tabObj ps) :: news) p x pos b) ?_ ?_
  · (try k_fold)
    k_steps
    unfold Stop
    cases hoc : occurrences p x (fromIndex p.length pos) p.length 1 with
    | cons k r =>
      refine index3_yes hoc ?_
      (try k_fold)
      k_steps
      refine ⟨k, _, .inl ⟨r, hoc⟩, .mk g' _ _ rfl .refl (by assumption) (by assumption) B' X' T' D'⟩
    | nil =>
      refine index3_no rfl hoc ?_
      intro hq tkq e hx
      refine caught_own (T' := "ValueError") hx (by assumption) (by assumption) B' XB TB D' .refl (by k_is) PyProof.Rows.Boot.«ValueError» (by decide) PySem.F.isExc_ValueError PySem.F.notTuple_ValueError (by kts_sub) ?_ rfl rfl rfl ?_
      · intro h2 g2 oe vs T2 F2 N2 hd2 hv2 hne2 B2 X2 P2 D2
        cases b with
        | false =>
          (try k_fold)
          k_steps
          refine ⟨p.length, _, .inr ⟨hoc, rfl, rfl⟩, .mk g2 _ _ rfl T2 (by assumption) (fun q hq => (by assumption : News g2 _ _ ((e, oe) :: _)) q (.tail _ hq)) B2 X2 P2 D2⟩
        | true =>
          (try k_fold)
          k_steps
          refine raise_from (P := w.params) rfl ?_
          (try k_fold)
          k_steps
          unfold Stop
          rename (_ : Str) = Str.empty ++ _ => hz1
          rename (_ : Str) = reprText _ => hz2
          rename (_ : Str) = _ ++ _ => hz3
          have I2 : TabI ps ((e, oe) :: news) := I.more fun q hq => .tail _ hq
          have N2 : News g2 L' _ ((36, tabObj ps) :: (e, oe) :: news) := fun q hq => (by assumption : News g2 L' _ ((e, oe) :: (36, tabObj ps) :: news)) q (by
            rcases List.mem_cons.mp hq with rfl | hq
            · exact .tail _ (.head _)
            rcases List.mem_cons.mp hq with rfl | hq
            · exact .head _
            · exact .tail _ (.tail _ hq))
          refine call_suff (cl := []) (news := (e, oe) :: news) B2 (by assumption) X2 (CB.keeps B2.stays) N2 (fun q hq => ?_) I2 P2 rfl (by ktr_room) (by ktr_units) (by omega) (by omega) (by omega) (by omega) ?_
          · rcases List.mem_cons.mp hq with rfl | hq
            · exact Ne.symm (hne2 _ (.head _))
            · exact l0 q hq
          intro e1 t1 tkn ps' news' h3 tk3 I3 ne3 sub3 e36 t36 F3 N3
          refine ⟨e1, t1, oe, vs, rfl, X2.keeps F3.keep, (N3 _ (.head _)).1, (N3 (e, oe) (.tail _ (.tail _ (.tail _ (sub3 _ (.head _)))))).1, hd2, hv2, (ne3 _ (sub3 _ (.head _))).2.1, fun h4 sb4 he4 => ?_⟩
          have hne' : ∀ q ∈ (36, tabObj ps') :: news', q.1 ≠ e1 ∧ q.1 ≠ t1 := fun q hq => by
            rcases List.mem_cons.mp hq with rfl | hq
            · exact ⟨e36.symm, t36.symm⟩
            · exact (ne3 q hq).2
          obtain ⟨F4, N4⟩ := turned_exc F3 N3 (fun q hq => (hne' q hq).1) sb4 he4
          refine leave_val B2 F4 N4 rfl rfl rfl rfl hne' ?_ rfl
          intro h5 R5 U5
          obtain ⟨h₁, T₁, F₁, B₁⟩ := up_ground B FG' T2
          refine exc _ _ _ _ _ _ _ _ _ _ (by rw [hz3, hz1, hz2]; exact .eof hoc rfl) (T0.trans T₁) F₁ B₁ R5 U5 I3 (fun q hq => (ne3 q hq).1) (fun q hq => sub3 q (.tail _ hq)) (XB.keeps B₁.stays) (TB.keeps B₁.stays) (D.turn T₁)
      · passes_own
  · intro s2 hJ
    refine hJ.elim ?_
    intro np tn g2 h2 tk2 hmid T2 F2 N2 B2 X2 P2 D2
    clear hJ
    obtain ⟨hnp, hnp2⟩ := skMid_le h0 h1 hmid
    (try k_fold)
    k_steps
    have hfsN := N2 (fs, fso) (.tail _ hfs)
    refine fs_method hfsN.1 hS ?_
    (try k_fold)
    k_steps
    unfold Stop
    rename Fr g2 _ _ _ => F3
    rename News g2 _ _ _ => N3
    have hfsN := N3 (fs, fso) (by simp [hfs])
    refine fs_disjoint rfl hfsN.1 hS hn ?_
    intro h3 tk3 bd hk3 hbd
    replace F3 := grow_fr F3 hk3
    replace N3 := grow_news N3 hk3
    cases bd with
    | true =>
      (try k_fold)
      k_steps
      exact ret np _ _ _ _ _ _ hmid hnp ((skAll h0 hnp2 hnp hbd).1 rfl) (by assumption) (by assumption) (by assumption) I l0 (fun q hq => hq) (by assumption) (by assumption) (by assumption) (by assumption)
    | false =>
      obtain ⟨j0, hj0, hj1, hj2⟩ : ∃ j : Nat, pos ≤ j ∧ j < np ∧ S (chS p j) = true := by
        apply Classical.byContradiction
        intro hno
        have := (skAll h0 hnp2 hnp hbd).2 fun k h3 h4 => by
          cases hc : S (chS p k) with
          | false => rfl
          | true => exact absurd ⟨k, h3, h4, hc⟩ hno
        cases this
      (try k_fold)
      k_steps
      unfold Stop
      refine while_at (SkW g2 L' s p x pos t t2 t3 b fs np tn j0 S ((36, tabObj ps) :: news)) ?_ ?_ (np - pos.toNat) ?_
      · passes_own
      · intro n1 s4 hJ
        refine hJ.elim ?_
        intro k tp h4 tk4 hk1 hk2 hn1 hk3' F4 N4
        clear hJ
        have hkl : k < p.length := by omega
        (try k_fold)
        k_steps
        rw [item_ch hkl]
        have hfsN := N4 (fs, fso) (.tail _ hfs)
        refine fs_notin hfsN.1 hS hn ?_
        cases hSk : S (chS p k) with
        | false =>
          (try k_fold)
          k_steps
          refine .on ?_
          (try k_fold)
          k_steps
          refine ⟨np - (k + 1), by omega, k + 1, _, _, _, rfl, by omega, ?_, rfl, fun i hi1 hi2 => ?_, fr_twice (by assumption), by assumption⟩
          · apply Classical.byContradiction
            intro hc
            have : k = j0 := by omega
            rw [this, hj2] at hSk
            cases hSk
          · by_cases hik : i = k
            · rw [hik]; exact hSk
            · exact hk3' i hi1 (by omega)
        | true =>
          (try k_fold)
          k_steps
          have hcr : (reprText (Txt.item p (k : Int))).length ≤ 60 := by
            rw [item_ch hkl]
            refine Nat.le_trans (StrLaws.reprText_len _ (fun c hc => ?_)) (by rw [chS_len]; omega)
            exact hpc c (ch_mem hkl hc)
          refine .off ?_
          (try k_fold)
          k_steps
          unfold Stop
          refine raise_val (P := w.params) rfl ?_
          (try k_fold)
          k_steps
          unfold Stop
          rename (_ : Str) = Str.empty ++ _ => hz1
          rename (_ : Str) = reprText _ => hz2
          rename (_ : Str) = _ ++ _ => hz3
          refine call_suff (cl := []) B2 (by assumption) X2 (CB.keeps B2.stays) (by assumption) l0 I P2 rfl (by ktr_room) (by ktr_units) (by omega) (by omega) (by omega) (by omega) ?_
          intro e1 t1 tkn ps' news' h3 tk3 I3 ne3 sub3 e36 t36 F3 N3
          refine ⟨e1, t1, rfl, X2.keeps F3.keep, (N3 _ (.head _)).1, ?_⟩
          have hne' : ∀ q ∈ (36, tabObj ps') :: news', q.1 ≠ e1 ∧ q.1 ≠ t1 := fun q hq => by
            rcases List.mem_cons.mp hq with rfl | hq
            · exact ⟨e36.symm, t36.symm⟩
            · exact (ne3 q hq).2
          refine leave_val B2 F3 N3 rfl rfl rfl rfl hne' ?_ rfl
          intro h5 R5 U5
          obtain ⟨h₁, T₁, F₁, B₁⟩ := up_ground B FG' T2
          refine exc _ _ _ _ _ _ _ _ _ _ ?_ (T0.trans T₁) F₁ B₁ R5 U5 I3 (fun q hq => (ne3 q hq).1) sub3 (XB.keeps B₁.stays) (TB.keeps B₁.stays) (D.turn T₁)
          rw [hz3, hz1, hz2, item_ch hkl]
          exact .bar np k hmid hk1 (by omega) hnp hSk hk3'
      · exact ⟨pos.toNat, t2, _, _, rfl, by omega, by omega, rfl, fun i hi1 hi2 => by omega, fr_same F3 (by rw [Int.toNat_of_nonneg h0]; rfl), N3⟩
end Mine
end
section -- CTold
theorem Mine.rstCTold : True := by
  w_top off
  trivial
open PySem PySem.W PyProof.Rows PySem.Calls PySem.Builtin.Str PyProof
set_option Elab.async false
set_option maxRecDepth 100000
set_option maxHeartbeats 1000000
namespace Mine
theorem fill2 : (PySem.Challenge.rw_nb0185_01 = PySem.Challenge.rw_nb0185_01 ∧ Mine.hd.heap_39 = Mine.hd.heap_39) → True := by k_fill; intro _; trivial
theorem wdCTolda : True := by
  k_with_none
  k_with "call ref" => (k_here; (with_reducible show wpAny _ _ (call (Value.ref 34) _ _) _ _ _); refine Stop.mk' ?_)
  trivial
/-- what _law_told answers -/
inductive ToldV (p x : Str) (pos : Int) (b : Bool) (S : Str → Bool) : Value → Prop
  | val (np : Nat) (tn : Tok) : SkMid p x pos b np → np ≤ p.length → (∀ i : Nat, pos ≤ i → i < np → S (chS p i) = false) → ToldV p x pos b S (.int np tn)
  | msg (z : Str) (tn : Tok) : SkipMsg p x pos b S z → ToldV p x pos b S (.str z tn)
theorem call_told {w : World} {mean : ExcName → Option Value} {mg mb : Str → Option Value} {dp un : Nat} {gd : Option (List Code)} {cn : Str} {cs : Scope} {a : Addr} {ccd : Value} {cl : List (Str × Addr)} {A₀ : Around} {base h₀ : Heap} {L : Addr} {m : Str → Option Value} {s : Shared} {Q E : Value → Shared → Prop} {news : List (Addr × Obj)} {p x : Str} {t t2 t3 : Tok} {pos : Int} {b : Bool} {fs : Addr} {fso : Obj} {S : Str → Bool} {n : Nat} {ps : Array Value}
  (B : Below A₀ base [] h₀) (F : Fr h₀ L s.heap m) (X : (Mine.hd.heap_39 w.params).In h₀) (XB : (Mine.hd.heap_39 w.params).In base) (CB : CodeHd base 40 36) (N : News h₀ L s.heap ((36, tabObj ps) :: news)) (l0 : ∀ q ∈ news, q.1 ≠ 36) (I : TabI ps news)
  (T : Top topProg looseX mean mg mb h₀) (TB : Top topProg looseX mean mg mb base)
  (hk : cs.kind = .function) (hdp : dp + 4 < recursionLimit) (hun : un + 32 < cLine)
  (hp : p.length ≤ 60) (h0 : 0 ≤ pos) (h1 : pos ≤ p.length) (hx : x.length ≤ 5) (hxc : ∀ c ∈ x.cps.toList, c < 16 ^ 8) (hpc : ∀ c ∈ p.cps.toList, c < 16 ^ 8) (hfs : (fs, fso) ∈ news) (hS : FsO Challenge.rw_nb0185_01.row.prog w fso S n) (hn : n < 64)
  (ret : ∀ v h' ps' news' tk, ToldV p x pos b S v → Fr h₀ L h' m → News h₀ L h' ((36, tabObj ps') :: news') → TabI ps' news' → (∀ q ∈ news', q.1 ≠ 36) → (∀ q ∈ news, q ∈ news') → Q v { s with heap := h', toks := tk }) :
  wpAny (model Challenge.rw_nb0185_01.row.prog w) (myTop none dp un gd cn cs L a ccd cl []) (call (.ref 96) [.str p t, .int pos t2, .str x t3, .ref fs, .bool b]) Q E s := by
  have hun' : un + 32 < cLine := hun
  refine wpAny_call ?_
  refine code_bottom (env := envX cn cs L a ccd cl) B F X N T rfl rfl hk (by k_is) (by k_is) (by ktr_room) (BindsTo.of_eq rfl) (locs rfl) ?_ rfl rfl rfl (by decide)
  intro g' L' h' FG' F' N' B' X' T' D'
  dsimp only
  k_fold
  (try k_fold)
  k_steps
  unfold Stop
  refine call_skip (A₀ := myTop none dp un gd cn cs L a ccd cl []) (outer := [envX cn cs L a ccd cl]) (b := b) (fs := fs) B' (by assumption) X' XB CB (by assumption) l0 I T' TB D' .refl rfl (by ktr_room) (by ktr_units) hp h0 h1 hx hxc hpc hfs hS hn ?_ ?_
  · intro np tn h₀' h' ps' news' tk hmid hnp hall T2 F2 N2 I2 l2 sub2 B2 X2 P2 D2
    refine leaveS0_ F2 N2 T2 ?_
    intro F3 N3
    exact ret _ _ _ _ _ (.val np tn hmid hnp hall) F3 N3 I2 l2 sub2
  · intro e t' msg tkn G h₀' h' ps' news' tk hmsg T2 F2 B2 R2 U2 I2 l2 sub2 X2 P2 D2
    refine caught_SOB R2 F2 B2 U2 XB TB D2 T2 (by k_is) (toml_kts _) ?_ rfl rfl rfl (by decide)
    intro h3 g3 news₂ tk3 T3 F3 N3 G3 N3' B3 X3 P3 D3
    obtain ⟨oe, ot, ws, nt, m1, m2, c1, c2, c3, c4, c5⟩ := G3
    have n1 := N3 _ m1
    have n2 := N3 _ m2
    clear N3 m1 m2
    (try k_fold)
    k_steps
    refine str_toml (P := w.params) (by ktr_units) (X3.keeps F3.keep) n1.1 c1 c2 c3 ⟨_, _, n2.1, c4, c5⟩ ?_
    (try k_fold)
    k_steps
    exact ret _ _ _ _ _ (.msg msg tkn hmsg) (by assumption) (by assumption) I2 l2 sub2
end Mine
end
section -- CPat
theorem Mine.rstCPat : True := by
  w_top off
  trivial
open PySem PySem.W PyProof.Rows PySem.Calls PySem.Builtin.Str PyProof
set_option Elab.async false
set_option maxRecDepth 100000
set_option maxHeartbeats 2000000
namespace Mine
theorem fill4 : (PySem.Challenge.rw_nb0185_01 = PySem.Challenge.rw_nb0185_01 ∧ Mine.hd.heap_39 = Mine.hd.heap_39) → True := by k_fill; intro _; trivial
theorem wdCPata : True := by
  k_with_none
  k_with "setAttr ref" => (k_here; refine Stop.mk' ?_)
  k_with "call builtin:str.count" => (k_here; refine Stop.mk' ?_)
  k_with "call builtin:str.rfind" => (k_here; refine Stop.mk' ?_)
  k_with "getMethod ref" => (k_here; refine Stop.mk' ?_)
  k_with "binaryOp Mod str ref" => (k_here; refine Stop.mk' ?_)
  trivial
theorem rf_bounds {x y : Str} {lo hi : Nat} : -1 ≤ rf x y lo hi ∧ rf x y lo hi ≤ hi := by
  unfold rf
  rcases last_hi x y lo hi with ⟨h, _⟩ | ⟨k, h, hA, _⟩
  · rw [h]; exact ⟨Int.le_refl _, by show (-1 : Int) ≤ hi; omega⟩
  · rw [h]
    have := hA.1
    exact ⟨by show (-1 : Int) ≤ (k : Int); omega, by show (k : Int) ≤ hi; omega⟩
theorem wdCPatb : True := by
  k_with "getAttr ref" => (k_here; refine load_pat (P := World.params _) (by assumption) (by assumption) (by assumption) (by assumption) (by first | exact .head _ | exact .tail _ (.head _)) (by first | exact .tail _ (.head _) | exact .tail _ (.tail _ (.head _))) (by decide) rfl ?_)
  trivial
noncomputable def PatJ (g : Heap) (L e d : Addr) (oe : Obj) (news : List (Addr × Obj)) (ln cl : Int) (s : Shared) (s' : Shared) : Prop :=
  ∃ z tz M od al h tk t1 t2, s' = { s with heap := h, toks := tk } ∧ M (Str.ofString "msg") = some (.str z tz) ∧ M (Str.ofString "self") = some (.ref e) ∧ PatO d oe od al ∧ mOf al (Str.ofString "lineno") = some (.int ln t1) ∧ mOf al (Str.ofString "colno") = some (.int cl t2) ∧ Fr g L h M ∧ News g L h ((e, oe) :: (d, od) :: news)
theorem join_wpAt {M : Model} {A : Around} {E : Value → Shared → Prop} {s : Shared} {env : Env} {Q : Flow → Shared → Prop} {c : Code} {st : Stmt} {rest : List Stmt} (J : Shared → Prop) (h1 : wpAny M A (exec st env) (fun f s' => match f with | .next => J s' | f => Q f s') E s)
    (h2 : ∀ s', J s' → PySem.wpAt M A c (execs rest env) Q E s') : PySem.wpAt M A c (execs (st :: rest) env) Q E s := by
  refine ks_wpAt_execs_cons (wpAt_of_wpAny (wpAny_mono h1 (fun f s' hf => ?_) fun _ _ e => e))
  cases f with
  | next => exact h2 s' hf
  | brk => exact hf
  | cont => exact hf
  | ret v => exact hf
theorem call_patinit {w : World} {mean : ExcName → Option Value} {mg mb : Str → Option Value} {dp un : Nat} {gd : Option (List Code)} {cn : Str} {cs : Scope} {a : Addr} {ccd : Value} {cl : List (Str × Addr)} {outer : List Env} {A₀ : Around} {base h₀ : Heap} {L : Addr} {m : Str → Option Value} {s : Shared} {Q E : Value → Shared → Prop} {news : List (Addr × Obj)} {p : Str} {t t2 t3 : Tok} {q : Nat} {e t0 : Addr} {hdl : Option Value}
  (B : Below A₀ base outer h₀) (F : Fr h₀ L s.heap m) (X : (Mine.hd.heap_39 w.params).In h₀) (N : News h₀ L s.heap ((e, excO 86 t0) :: news)) (hne : ∀ r ∈ news, r.1 ≠ e)
  (T : Top topProg looseX mean mg mb h₀)
  (hk : cs.kind = .function) (hdp : dp + 4 < recursionLimit) (hun : un + 200 < cLine)
  (hp : p.length ≤ 60) (hq : q < p.length)
  (ret : ∀ d oe od al h' tk t1 t2, PatO d oe od al → mOf al (Str.ofString "lineno") = some (.int ((occurrences p (Str.ofString "\n") (fromIndex p.length 0) (min (fromIndex p.length (q : Int)) p.length) (p.length + 1)).length + 1) t1) → mOf al (Str.ofString "colno") = some (.int ((q : Int) - rf p (Str.ofString "\n") (fromIndex p.length 0) (min (fromIndex p.length (q : Int)) p.length)) t2) → Fr h₀ L h' m → News h₀ L h' ((e, oe) :: (d, od) :: news) → Q .none { s with heap := h', toks := tk }) :
  wpAny (model Challenge.rw_nb0185_01.row.prog w) (myTop hdl dp un gd cn cs L a ccd cl outer) (call (.ref 83) [.ref e, .str (Str.ofString "barred") t, .str p t2, .int q t3]) Q E s := by
  have hun' : un + 200 < cLine := hun
  refine wpAny_call ?_
  k_dflt (refine' ks_code_super ?k1 ?k2 ?k3 ?k4 ?k5 ?kA ?kF ?kK ?k6 ?k7 ?k8 ?k9 ?kB ?_ ?c1 ?c2 ?c3 ?c4; (case kA => exact rfl); (case kF => exact rfl); (case kK => exact hk); (case k1 => k_asm); (case k2 => k_asm); (case k3 => k_asm); (case k4 => k_asm); (case k5 => k_asm); (case k6 => k_is); (case k7 => k_is); (case k8 => ktr_room); (case k9 => exact binds_K (by k_in) rfl (by k_is) rfl rfl rfl); (case kB => exact locs rfl); (case c1 => decide); (case c2 => exact rfl); (case c3 => exact rfl); (case c4 => exact rfl); k_whole; intro g' L' h' FG' F' N' B' X' T' l1; (try k_lt l1); (try dsimp only))
  have F0 : Fr g' L' h' (fun y => [(Str.ofString "pos", Value.int q t3), (Str.ofString "pattern", .str p t2), (Str.ofString "msg", .str (Str.ofString "barred") t), (Str.ofString "self", .ref e)].lookup y) := F'
  clear F'
  refine ks_wpAt_execs_cons (wpAt_of_wpAny ?_)
  (try k_fold)
  k_steps
  unfold Stop
  refine set_first (P := w.params) (t0 := t0) (news := news) (by assumption) X' (by assumption) (.head _) (fun q hq => .tail _ hq) hne (by decide) ?_
  intro d oe od h1 tk1 I1 hde hned F1 N1
  have hne2 : ∀ r ∈ news, r.1 ≠ e ∧ r.1 ≠ d := fun r hr => ⟨hne r hr, hned r hr⟩
  refine ks_wpAt_execs_cons (wpAt_of_wpAny ?_)
  (try k_fold)
  k_steps
  unfold Stop
  refine set_more (P := w.params) (news := news) (by assumption) X' (by assumption) I1 (by simp) (.head _) (.tail _ (.head _)) (fun q hq => .tail _ (.tail _ hq)) hde hne2 (by decide) ?_
  intro od2 h2 tk2 I2 F2 N2
  refine ks_wpAt_execs_cons (wpAt_of_wpAny ?_)
  (try k_fold)
  k_steps
  unfold Stop
  refine set_more (P := w.params) (news := news) (by assumption) X' (by assumption) I2 (by simp) (.head _) (.tail _ (.head _)) (fun q hq => .tail _ (.tail _ hq)) hde hne2 (by decide) ?_
  intro od3 h3 tk3 I3 F3 N3
  refine join_wpAt (PatJ g' L' e d oe news ((occurrences p (Str.ofString "\n") (fromIndex p.length 0) (min (fromIndex p.length (q : Int)) p.length) (p.length + 1)).length + 1) ((q : Int) - rf p (Str.ofString "\n") (fromIndex p.length 0) (min (fromIndex p.length (q : Int)) p.length)) s) ?_ ?_
  · skip
    k_steps
    unfold Stop
    refine mod1 (by assumption) (.head _) (by decide +kernel) (by omega) (by omega) ?_
    intro z t' tk' hzl
    k_steps
    unfold Stop
    refine count4b ?_
    intro c hc hcb
    clear I1 I2
    k_steps
    unfold Stop
    refine set_more (P := w.params) (news := news) (by assumption) X' (by assumption) I3 (by simp) (.tail _ (.head _)) (.tail _ (.tail _ (.head _))) (fun q hq => .tail _ (.tail _ (.tail _ hq))) hde hne2 (by decide) ?_
    intro od4 h4 tk4 I4 F5 N5
    clear I3
    k_steps
    unfold Stop
    refine rfind4o ?_
    intro c2 hc2
    have hc2b := rf_bounds (x := p) (y := Str.ofString "\n") (lo := fromIndex p.length 0) (hi := min (fromIndex p.length (q : Int)) p.length)
    rw [← hc2, from_nat] at hc2b
    have hc2c : c2 ≤ q := by omega
    k_steps
    unfold Stop
    refine set_more (P := w.params) (news := news) (by assumption) X' (by assumption) I4 (by simp) (.head _) (.tail _ (.head _)) (fun q hq => .tail _ (.tail _ hq)) hde hne2 (by decide) ?_
    intro od5 h5 tk5 I5 F6 N6
    clear I4
    rw [← hc, ← hc2]
    (try k_fold)
    k_steps
    · exact ⟨_, _, _, _, _, _, _, _, _, rfl, rfl, rfl, I5, rfl, rfl, F6, N6⟩
    · unfold Stop
      refine mod2 (by assumption) (.head _) (by omega) (by omega) (by omega) (by omega) (by omega) ?_
      intro z2 t2' tk2' hzl2
      (try k_fold)
      k_steps
      exact ⟨_, _, _, _, _, _, _, _, _, rfl, rfl, rfl, I5, rfl, rfl, by assumption, fun r hr => (by assumption : News g' L' _ (_ :: (e, oe) :: _)) r (.tail _ hr)⟩
  · rintro s9 ⟨z, tz, M, od, al, h, tk, t1, t2, rfl, hmsg, hself, I, hln, hcl, F9, N9⟩
    refine ks_wpAt_execs_cons (ks_wpAt_Expr_any (ks_wpAt_MethodCall ?_))
    have hinst : InstAt h e oe 86 (some od) := by
      refine ⟨(N9 _ (.head _)).1, I.cls, ?_, ?_⟩
      · obtain ⟨vs, t0, hd, _⟩ := I.data
        unfold notCls
        rw [hd]
      · rw [I.dict]
        exact (N9 (d, od) (.tail _ (.head _))).1
    refine ks_node F9 X' N9 T' (by k_is) rfl hself hinst (by k_is) rfl (by first | rfl | decide +kernel) (by k_is) (by k_is) (by k_is) (by k_is) (by decide) rfl rfl rfl rfl (by decide +kernel) (by first | boot_by_name | rfl | kernel_rfl) ?_
    intro so h6 F10 N10 l10
    refine get_init (P := w.params) F10 X' N10 (by k_is) I (.tail _ (.head _)) (.head _) ?_
    intro mw h7 F11 N11 l11
    refine callWith_mw (x := e) rfl ?_
    refine spliced_more (nameX_L F11 hmsg ?_ rfl rfl) rfl
    refine spliced_none ?_
    refine ⟨(N11 _ (.head _)).1, ?_⟩
    refine call_init (P := w.params) (news := news) F11 X' N11 I (.tail _ (.tail _ (.head _))) (.tail _ (.tail _ (.tail _ (.head _)))) (.head _) (fun r hr => .tail _ (.tail _ (.tail _ (.tail _ hr)))) hde hne ?_
    intro oe' h8 I' F12 N12
    refine wpAt_of_wpAny ?_
    (try k_fold)
    k_steps
    exact ret _ _ _ _ _ _ _ _ I' hln hcl (by assumption) (by assumption)
theorem pat_ns (P : Params) : nsIn (Mine.hd.heap_39 P) mainGlobals (Str.ofString "PatternError") = some (some (.ref 86)) := by kernel_rfl
theorem ns_some_of {K : Frag} {h : Heap} {N : Addr} {mg : Str → Option Value} {n : Str} {v : Value} (X : K.In h) (G : h.Ns N mg) (e : nsIn K N n = some (some v)) : mg n = some v := by
  obtain ⟨o, es, ep, ho, hd, _, hf⟩ := G
  unfold nsIn at e
  split at e
  · rename_i c d es' n' sl q
    have := X _ _ q
    rw [ho] at this
    cases this
    cases hd
    split at e
    · rename_i en he
      cases e
      rw [← hf]
      unfold nsFind findBy
      rw [← Array.find?_toList, he]
      rfl
    · split at e <;> cases e
  · cases e
theorem pat_fn (P : Params) : ∃ o, (Mine.hd.heap_39 P).lookup 83 = some o ∧ o.cls = .type "function" := by
  cases h : (Mine.hd.heap_39 P).lookup 83 with
  | none => exact absurd (show ((Mine.hd.heap_39 P).lookup 83).isSome = true from by kernel_rfl) (by rw [h]; decide)
  | some o => exact ⟨o, rfl, by
    have h2 : ((Mine.hd.heap_39 P).lookup 83).map (·.cls) = some (.type "function") := by kernel_rfl
    rw [h] at h2
    exact Option.some.inj h2⟩
theorem mk_pat {w : World} {mean : ExcName → Option Value} {mg mb : Str → Option Value} {dp un : Nat} {gd : Option (List Code)} {cn : Str} {cs : Scope} {a : Addr} {ccd : Value} {cl : List (Str × Addr)} {outer : List Env} {A₀ : Around} {base h₀ : Heap} {L : Addr} {m : Str → Option Value} {s : Shared} {Q E : Value → Shared → Prop} {news : List (Addr × Obj)} {p : Str} {t t2 t3 : Tok} {q : Nat} {hdl : Option Value}
  (B : Below A₀ base outer h₀) (F : Fr h₀ L s.heap m) (X : (Mine.hd.heap_39 w.params).In h₀) (N : News h₀ L s.heap news)
  (T : Top topProg looseX mean mg mb h₀)
  (hk : cs.kind = .function) (hdp : dp + 6 < recursionLimit) (hun : un + 210 < cLine)
  (hp : p.length ≤ 60) (hq : q < p.length)
  (ret : ∀ e d oe od al h' tk t1 t2, PatO d oe od al → mOf al (Str.ofString "lineno") = some (.int ((occurrences p (Str.ofString "\n") (fromIndex p.length 0) (min (fromIndex p.length (q : Int)) p.length) (p.length + 1)).length + 1) t1) → mOf al (Str.ofString "colno") = some (.int ((q : Int) - rf p (Str.ofString "\n") (fromIndex p.length 0) (min (fromIndex p.length (q : Int)) p.length)) t2) → Fr h₀ L h' m → News h₀ L h' ((e, oe) :: (d, od) :: news) → Q (.ref e) { s with heap := h', toks := tk }) :
  wpAny (model Challenge.rw_nb0185_01.row.prog w) (myTop hdl dp un gd cn cs L a ccd cl outer) (call (.ref 86) [.str (Str.ofString "barred") t, .str p t2, .int q t3]) Q E s := by
  have hX := X.keeps F.keep
  obtain ⟨nm, qn, bs, sn, sub, ab, col, dd, k0, k1, k2, k3, k5, hl⟩ := pat_cls w.params
  obtain ⟨of, hof, hofc⟩ := pat_fn w.params
  have hN : s.heap.Ns 85 (s.heap.nsMap 85) := .of_isNs (isNs_of_in hX (pat_nsok _))
  obtain ⟨hp', gg, dr, tk, os⟩ := s
  refine wpAny_call_exc_init PySem.F.excBase_Exception (hX _ _ hl) hN (ns_some_of hX hN (pat_init _)) (hX _ _ hof) hofc (fun h' e hm => ?_) (by show 3 ≤ sizeLine; rw [sl_eq]; omega)
  obtain ⟨t0, he, hnt, ht⟩ := hm.there
  have nL : ∀ b, hp'.get? b = none → b ≠ L := fun b hb q => by
    obtain ⟨oL, _, _, hL, _⟩ := F.ns
    rw [q] at hb
    have : hp'.get? L = some oL := hL
    rw [hb] at this; cases this
  have n0 : ∀ b, hp'.get? b = none → h₀.get? b = none := fun b hb => by
    cases q : h₀.get? b with
    | none => rfl
    | some o => have := F.keep b o q; rw [show (Shared.heap ⟨hp', gg, dr, tk, os⟩) = hp' from rfl, hb] at this; cases this
  generalize hcd : Code.builtin "type.__call__" { pos := [Value.ref 86, Value.str (Str.ofString "barred") t, Value.str p t2, Value.int (q : Int) t3] } = c
  have he0 : c.envs = [] := by rw [← hcd]; rfl
  have hw : c.weight ≤ 1 := by rw [← hcd]; exact Nat.le_of_ble_eq_true (by kernel_rfl)
  have hcu : c.cUnits = 1 := by rw [← hcd]; rfl
  have hA : (myTop hdl dp un gd cn cs L a ccd cl outer).under c = myTop hdl (dp + c.weight) (un + 1) (pushGuards c.guards gd) cn cs L a ccd cl outer := by
    unfold Around.under
    rw [he0, hcu]
    rfl
  rw [hA]
  refine call_patinit (s := ⟨h', gg, dr, tk, os⟩) (A₀ := A₀) (dp := dp + c.weight) (un := un + 1) (gd := pushGuards c.guards gd) (cn := cn) (cs := cs) (L := L) (a := a) (ccd := ccd) (cl := cl) (outer := outer) (news := news) (e := e) (t0 := t0) B (F.kept hm.keeps) X (fun r hr => ?_) (fun r hr z => ?_) T hk (by omega) (by omega) hp hq ?_
  · rcases List.mem_cons.mp hr with rfl | hr
    · exact ⟨he, nL _ hm.new, n0 _ hm.new⟩
    · exact ⟨hm.keeps _ _ (N r hr).1, (N r hr).2⟩
  · have := (N r hr).1
    rw [z, show (Shared.heap ⟨hp', gg, dr, tk, os⟩) = hp' from rfl, hm.new] at this; cases this
  · intro d oe od al h2 tk2 t1 t2 I h1 h3 F2 N2
    exact ⟨rfl, ret _ _ _ _ _ _ _ _ _ I h1 h3 F2 N2⟩
end Mine
end
section -- CDue
theorem Mine.rstCDue : True := by
  w_top off
  trivial
open PySem PySem.W PyProof.Rows PySem.Calls PySem.Builtin.Str PyProof
set_option Elab.async false
set_option maxRecDepth 100000
set_option maxHeartbeats 1000000
namespace Mine
theorem fill3 : (PySem.Challenge.rw_nb0185_01 = PySem.Challenge.rw_nb0185_01 ∧ Mine.hd.heap_39 = Mine.hd.heap_39) → True := by k_fill; intro _; trivial
theorem wdCDuea : True := by
  k_with_none
  k_with "exec Assign cons ListComp" => (k_here; refine Stop.mk' ?_)
  k_with "CompSrcT" => (k_here; refine Stop.mk' ?_)
  k_with "compareOp Eq ref ref" => (k_here; refine Stop.mk' ?_)
  k_with "compareOp NotEq ref ref" => (k_here; refine Stop.mk' ?_)
  k_with "getAttr ref" => (k_here; refine load_pat (P := World.params _) (by assumption) (by assumption) (by assumption) (by assumption) (by first | exact .head _ | exact .tail _ (.head _)) (by first | exact .tail _ (.head _) | exact .tail _ (.tail _ (.head _))) (by decide) (by assumption) ?_)
  trivial
theorem str_int_o {prog : Program} {w : World} {A : Around} {E : Value → Shared → Prop} {s : Shared} {a : Int} {t : Tok} {Q : Value → Shared → Prop} (h0 : 0 ≤ a) (h1 : a < 10 ^ 10)
    (k : ∀ z, z = Str.ofString (toString a) → z.length ≤ 10 → Q (.str z s.toks) { s with toks := s.toks + 1 }) : wpAny (model prog w) A (call (.type "str") [.int a t]) Q E s :=
  str_of_int_fit (N := 10 ^ 10) (by rw [if_neg (by omega)]; exact h1) (by decide) fun _ => k _ rfl (KT.len_num h0 h1)
theorem wdCDueb : True := by
  k_with "call type:str" => (k_here; refine str_int_o (by omega) (by omega) ?_; intro z hz hl)
  trivial
theorem repr_c {prog : Program} {w : World} {A : Around} {E : Value → Shared → Prop} {s : Shared} {x : Str} {t : Tok} {Q : Value → Shared → Prop} (hx : (reprText x).length ≤ 60)
    (k : ∀ z, z = reprText x → z.length ≤ 60 → Q (.str z s.toks) { s with toks := s.toks + 1 }) : wpAny (model prog w) A (call (.builtin "repr") [.str x t]) Q E s :=
  P.repr_of_str (k _ rfl hx) (Nat.le_trans hx (by decide))
theorem add_o {prog : Program} {w : World} {A : Around} {E : Value → Shared → Prop} {s : Shared} {x y : Str} {t u : Tok} {Q : Value → Shared → Prop} (hx : x.length + y.length ≤ 5000)
    (k : ∀ z, z = x ++ y → z.length = x.length + y.length → ∀ t' tk, Q (.str z t') { s with toks := tk }) : wpAny (model prog w) A (binaryOp .Add (.str x t) (.str y u)) Q E s :=
  SBL.add (fun t' tk h => k _ rfl (by omega) t' tk) (Nat.le_trans hx (by rw [sizeLine_eq]; decide))
theorem wdCDuec : True := by
  k_with "call builtin:repr" => (k_here; refine repr_c (by assumption) ?_; intro z hz hl)
  k_with "binaryOp Add str str" => (k_here; refine add_o (by simp only [lit1, lit2, lit3, lit4, lit5, lit6, lit7, lit8]; omega) ?_; intro z hz hl t' tk'; (try simp only [lit1, lit2, lit3, lit4, lit5, lit6, lit7, lit8] at hl))
  k_with "pyIter ref" => (k_here; refine Stop.mk' ?_)
  trivial
/-- a state in the frame, with what is known there -/
noncomputable def StJ (g : Heap) (L : Addr) (s : Shared) (M : Str → Option Value) (led : List (Addr × Obj)) (P : Prop) (s' : Shared) : Prop := P ∧ ∃ h tk, s' = { s with heap := h, toks := tk } ∧ Fr g L h M ∧ News g L h led
theorem fr_congr' {g h : Heap} {L : Addr} {m m' : Str → Option Value} (F : Fr g L h m) (e : ∀ y, m y = m' y) : Fr g L h m' := by
  have : m = m' := funext e
  rwa [this] at F
noncomputable def StE (g : Heap) (L : Addr) (s : Shared) (M : Str → Option Value) (led : List (Addr × Obj)) (en : Int) (s' : Shared) : Prop := ∃ te, StJ g L s (fun z => if z = Str.ofString "end" then some (.int en te) else M z) led True s'
theorem StJ.elim {g : Heap} {L : Addr} {s s' : Shared} {M : Str → Option Value} {led : List (Addr × Obj)} {R : Prop} {P : Shared → Prop} (h : StJ g L s M led R s') (k : ∀ h tk, R → Fr g L h M → News g L h led → P { s with heap := h, toks := tk }) : P s' := by
  obtain ⟨h1, h, tk, rfl, h2, h3⟩ := h
  exact k h tk h1 h2 h3
theorem StE.elim {g : Heap} {L : Addr} {s s' : Shared} {M : Str → Option Value} {led : List (Addr × Obj)} {en : Int} {P : Shared → Prop} (h : StE g L s M led en s') (k : ∀ te h tk, Fr g L h (fun z => if z = Str.ofString "end" then some (.int en te) else M z) → News g L h led → P { s with heap := h, toks := tk }) : P s' := by
  obtain ⟨te, h⟩ := h
  exact h.elim fun h tk _ => k te h tk
noncomputable def endOf (p : Str) (al : List Int) : Int := match al with | [] => p.length | a :: _ => a
theorem fr_eq {g h : Heap} {L : Addr} {m M : Str → Option Value} {x : Str} {v : Option Value} (F : Fr g L h (fun y => if y = x then v else m y)) (e : ∀ y, y ≠ x → m y = M y) : Fr g L h (fun y => if y = x then v else M y) := by
  have : (fun y => if y = x then v else m y) = (fun y => if y = x then v else M y) := by
    funext y
    by_cases h : y = x
    · simp only [if_pos h]
    · simp only [if_neg h]; exact e y h
  rwa [this] at F
theorem fr_done {g h : Heap} {L : Addr} {m M : Str → Option Value} {x : Str} (F : Fr g L h m) (e : ∀ y, y ≠ x → m y = M y) : Fr g L h (fun y => if y = x then m x else M y) := by
  have : m = (fun y => if y = x then m x else M y) := by
    funext y
    by_cases h : y = x
    · rw [if_pos h, h]
    · simp only [if_neg h]; exact e y h
  rwa [← this]
theorem wdCDued : True := by
  k_with "compareOp In str ref" => (k_here; refine Stop.mk' ?_)
  trivial
theorem fold_ahead (pos : Int) (ns : List Int) : ns.foldl (fun l k => if k ≥ pos then l ++ [k] else l) [] = ns.filter (fun k => decide (k ≥ pos)) := by
  have key : ∀ (ns acc : List Int), ns.foldl (fun l k => if k ≥ pos then l ++ [k] else l) acc = acc ++ ns.filter (fun k => decide (k ≥ pos)) := by
    intro ns
    induction ns with
    | nil => intro acc; simp
    | cons a r ih =>
      intro acc
      rw [List.foldl_cons, ih, List.filter_cons]
      by_cases h : a ≥ pos
      · simp [h]
      · simp [h]
  simpa using key ns []
theorem grows_ahead (pos : Int) : KPfGrows (fun l k => if k ≥ pos then l ++ [k] else l) := fun l k => by
  dsimp only
  split <;> simp
noncomputable def spotS (p : Str) (q : Nat) : Str := Str.ofString "line " ++ Str.ofString (toString (((occurrences p (Str.ofString "\n") (fromIndex p.length 0) (min (fromIndex p.length (q : Int)) p.length) (p.length + 1)).length : Nat) + 1 : Int)) ++ Str.ofString ", column " ++ Str.ofString (toString ((q : Int) - rf p (Str.ofString "\n") (fromIndex p.length 0) (min (fromIndex p.length (q : Int)) p.length)))
noncomputable def dueMsg (p : Str) (q : Nat) : Str := Str.ofString "Found invalid character " ++ reprText (chS p q) ++ Str.ofString " (at " ++ spotS p q ++ Str.ofString ")"
theorem due_eq {p : Str} {q : Nat} {z z1 z2 z3 z4 z5 z6 z7 : Str} {c : Nat} {r : Int} (hql : q < p.length) (h0 : z = z1 ++ (z5 ++ z4) ++ Str.ofString ")") (h1 : z1 = z2 ++ Str.ofString " (at ") (h2 : z2 = Str.ofString "Found invalid character " ++ z3) (h3 : z3 = reprText (Txt.item p (q : Int)))
    (h4 : z4 = Str.ofString (toString ((q : Int) - r))) (h5 : z5 = z6 ++ Str.ofString ", column ") (h6 : z6 = Str.ofString "line " ++ z7) (h7 : z7 = Str.ofString (toString ((c : Int) + 1)))
    (hc : (occurrences p (Str.ofString "\n") (fromIndex p.length 0) (min (fromIndex p.length (q : Int)) p.length) (p.length + 1)).length = c) (hr : rf p (Str.ofString "\n") (fromIndex p.length 0) (min q p.length) = r) : z = dueMsg p q := by
  unfold dueMsg spotS
  rw [hc, from_nat (i := q), hr, h0, h1, h2, h3, h4, h5, h6, h7, item_ch hql]
/-- what _law_due answers -/
inductive DueV (p x : Str) (pos : Int) (b : Bool) (S : Str → Bool) (al : List Int) : Value → Prop
  | eof (tn : Tok) : al = [] → b = true → DueV p x pos b S al (.str (Str.ofString "Expected " ++ reprText x ++ Str.ofString " (at end of document)") tn)
  | bar (q : Nat) (tn : Tok) : (al = [] → b = false) → pos ≤ q → (q : Int) < endOf p al → S (chS p q) = true → (∀ j : Nat, pos ≤ j → j < q → S (chS p j) = false) → DueV p x pos b S al (.str (dueMsg p q) tn)
  | val (tn : Tok) : (al = [] → b = false) → (∀ j : Nat, pos ≤ j → (j : Int) < endOf p al → S (chS p j) = false) → DueV p x pos b S al (.int (endOf p al) tn)
noncomputable def dueM (D3 fs fa : Addr) (b : Bool) (x : Str) (t3 : Tok) (p : Str) (t : Tok) (z : Str) : Option Value :=
  if z = Str.ofString "ahead" then some (.ref D3) else if z = Str.ofString "strict" then some (.bool b) else if z = Str.ofString "bars" then some (.ref fs) else if z = Str.ofString "finds" then some (.ref fa) else if z = Str.ofString "sought" then some (.str x t3) else if z = Str.ofString "text" then some (.str p t) else none
noncomputable def dueN (en : Int) (te : Tok) (fs : Addr) (p : Str) (t : Tok) (M : Str → Option Value) (z : Str) : Option Value :=
  if z = Str.ofString "end" then some (.int en te) else if z = Str.ofString "bars" then some (.ref fs) else if z = Str.ofString "text" then some (.str p t) else M z
noncomputable def DueJ (led : List (Addr × Obj)) (S : Str → Bool) (p : Str) (t : Tok) (pos en : Int) (te : Tok) (fs : Addr) (M : Str → Option Value) (i : Nat) (m₁ : Str → Option Value) (nx : List (Addr × Obj)) : Prop :=
  nx = led ∧ (∀ j : Nat, pos ≤ j → j < pos + i → S (chS p j) = false) ∧ ∀ y, y ≠ Str.ofString "k" → m₁ y = dueN en te fs p t M y
theorem due_fr {g h : Heap} {L D3 fs fa : Addr} {b : Bool} {x p : Str} {t t3 te : Tok} {en : Int} (F : Fr g L h (fun z => if z = Str.ofString "end" then some (.int en te) else dueM D3 fs fa b x t3 p t z)) : Fr g L h (dueN en te fs p t (dueM D3 fs fa b x t3 p t)) := by
  refine fr_congr' F fun y => ?_
  unfold dueN
  by_cases h1 : y = Str.ofString "end"
  · simp only [if_pos h1]
  · simp only [if_neg h1]
    by_cases h2 : y = Str.ofString "bars"
    · subst h2; rfl
    · simp only [if_neg h2]
      by_cases h3 : y = Str.ofString "text"
      · subst h3; rfl
      · simp only [if_neg h3]
theorem DueJ.elim {led nx : List (Addr × Obj)} {S : Str → Bool} {p : Str} {t : Tok} {pos en : Int} {te : Tok} {fs : Addr} {M m₁ : Str → Option Value} {i : Nat} {P : List (Addr × Obj) → Prop} (h : DueJ led S p t pos en te fs M i m₁ nx)
    (k : (∀ j : Nat, pos ≤ j → j < pos + i → S (chS p j) = false) → (∀ y, y ≠ Str.ofString "k" → m₁ y = dueN en te fs p t M y) → P led) : P nx := by
  obtain ⟨rfl, h2, h3⟩ := h
  exact k h2 h3
theorem led_gen2 {g h : Heap} {L : Addr} {l news : List (Addr × Obj)} {q : Addr × Obj} {P : Prop} (N : News g L h l) (hq : q ∈ l) (hn : ∀ r ∈ news, r ∈ l) (k : ∀ led, News g L h led → q ∈ led → (∀ r ∈ news, r ∈ led) → P) : P := k l N hq hn
theorem due_M {g h : Heap} {L D3 fs fa : Addr} {b : Bool} {x p : Str} {t t3 te : Tok} {en : Int} {P : Prop} (F : Fr g L h (fun z => if z = Str.ofString "end" then some (.int en te) else dueM D3 fs fa b x t3 p t z)) (k : ∀ M, Fr g L h (dueN en te fs p t M) → P) : P := k _ (due_fr F)
theorem call_due {w : World} {mean : ExcName → Option Value} {mg mb : Str → Option Value} {dp un : Nat} {gd : Option (List Code)} {cn : Str} {cs : Scope} {a : Addr} {ccd : Value} {cl : List (Str × Addr)} {outer : List Env} {A₀ : Around} {base h₀ : Heap} {L : Addr} {m : Str → Option Value} {s : Shared} {Q E : Value → Shared → Prop} {news : List (Addr × Obj)} {p x : Str} {t t2 t3 : Tok} {pos : Int} {b : Bool} {fs fa : Addr} {fso fo : Obj} {S : Str → Bool} {n nn : Nat} {vs : List Value} {ns : List Int}
  (B : Below A₀ base outer h₀) (F : Fr h₀ L s.heap m) (X : (Mine.hd.heap_39 w.params).In h₀) (N : News h₀ L s.heap news)
  (T : Top topProg looseX mean mg mb h₀)
  (hk : cs.kind = .function) (hdp : dp + 10 < recursionLimit) (hun : un + 300 < cLine)
  (hp : p.length ≤ 60) (h0 : 0 ≤ pos) (h1 : pos ≤ p.length) (hx : x.length ≤ 5) (hxc : ∀ c ∈ x.cps.toList, c < 16 ^ 8) (hpc : ∀ c ∈ p.cps.toList, c < 16 ^ 8) (hfs : (fs, fso) ∈ news) (hS : FsO Challenge.rw_nb0185_01.row.prog w fso S n) (hn : n < 64)
  (hfa : (fa, fo) ∈ news) (hfo : fo = { cls := .type "list", data := .seq vs.toArray nn }) (hvs : IntsAre vs ns) (hnl : ns.length ≤ 60) (hns : ∀ k ∈ ns, k ≤ (p.length : Int))
  (ret : ∀ v h' tk, DueV p x pos b S (ns.filter (fun k => decide (k ≥ pos))) v → Fr h₀ L h' m → News h₀ L h' news → Q v { s with heap := h', toks := tk }) :
  wpAny (model Challenge.rw_nb0185_01.row.prog w) (myTop none dp un gd cn cs L a ccd cl outer) (call (.ref 101) [.str p t, .int pos t2, .str x t3, .ref fa, .ref fs, .bool b]) Q E s := by
  have hun' : un + 300 < cLine := hun
  subst hfo
  refine wpAny_call ?_
  k_dflt (refine' code_defC ?k1 ?k2 ?k3 ?k4 ?k5 ?kA ?kF ?kK ?k6 ?k7 ?k8 ?k9 ?kB ?kD ?_ ?c2 ?c3 ?c4; (case kA => exact rfl); (case kF => exact rfl); (case kK => exact hk); (case k1 => k_asm); (case k2 => k_asm); (case k3 => k_asm); (case k4 => k_asm); (case k5 => k_asm); (case k6 => k_is); (case k7 => k_is); (case k8 => ktr_room); (case k9 => exact BindsTo.of_eq rfl); (case kB => exact rfl); (case kD => decide +kernel); (case c2 => exact rfl); (case c3 => exact rfl); (case c4 => exact rfl); k_whole; intro g' L' h' tk' cells' FG' F' N' Y' B' X' T' l1; (try k_lt l1); k_cells Y'; (try simp only [List.cons_append, List.nil_append] at N'); (try dsimp only); (try k_fold))
  rename _ = Data.cell _ => d1
  have d1' : _ = Data.cell (some (Value.int pos t2)) := d1
  have F0 : Fr g' L' h' (fun y => if y = Str.ofString "strict" then some (.bool b) else if y = Str.ofString "bars" then some (.ref fs) else if y = Str.ofString "finds" then some (.ref fa) else if y = Str.ofString "sought" then some (.str x t3) else if y = Str.ofString "text" then some (.str p t) else none) := F'
  clear F' d1
  (try k_fold)
  k_steps
  unfold Stop
  refine LCt.Assign_ListComp_T (F₀ := F0) (by rfl) (by with_unfolding_all rfl) (by with_unfolding_all rfl) (by decide) (by rfl) (by decide) (by rfl) (by rfl) (by rfl) ?_
  (try k_fold)
  k_steps
  unfold Stop
  refine LCt.CompSrcT.ledger rfl (by assumption) (by assumption) (List.mem_cons_of_mem _ hfa) (by rw [List.size_toArray, hvs.length]; exact Nat.le_trans hnl (by decide)) ?_
  intro g2
  refine kci_list (fun l k => if k ≥ pos then l ++ [k] else l) hvs ?_ ?_ ?_
  · intro k t' I oI C oC D m₂ ys l h2 tk2 E' hk' hI' hC' hx' F2 N2 off2 ne2 mark2
    (try k_fold)
    k_steps
    · refine LCg.CompEnd.intro (by assumption) (by assumption) _ (fun p hp => hp) off2 (.inr ⟨_, List.mem_cons_of_mem _ hfa, rfl, _, rfl⟩) (kci_el (by rw [if_pos (by assumption)]) rfl rfl)
    · refine LCg.CompEnd.intro (by assumption) (by assumption) _ (fun p hp => hp) off2 (.inr ⟨_, List.mem_cons_of_mem _ hfa, rfl, _, rfl⟩) (kci_no (by rw [if_neg (by assumption)]) rfl)
  · unfold KPfDone
    intro ys hys hyl
    rw [fold_ahead] at hys
    unfold LCg.FinA
    intro D3 h3 tk3 F3 N3 o3
    have hxr : (reprText x).length ≤ 60 := Nat.le_trans (StrLaws.reprText_len x hxc) (by omega)
    generalize hal : ns.filter (fun k => decide (k ≥ pos)) = al at hys
    have hal' : ∀ k ∈ al, pos ≤ k ∧ k ≤ p.length := fun k hk => by
      rw [← hal] at hk
      have := List.mem_filter.mp hk
      exact ⟨of_decide_eq_true this.2, hns k this.1⟩
    rename Obj => oc
    refine join_at (StJ g' L' s (dueM D3 fs fa b x t3 p t) ((D3, LCg.lst ys) :: (L' + 1, oc) :: news) (al = [] → b = false)) ?_ ?_
    · cases al with
      | nil =>
        cases hys
        (try k_fold)
        k_steps
        unfold Stop
        refine eq_led (ns := []) (ms := []) (xs := []) (ys := []) (by assumption) (.tail _ (.head _)) (.head _) .nil .nil (by ktr_units) ?_
        cases b with
        | true =>
          (try k_fold)
          k_steps
          with_reducible rename (_ : Str) = reprText _ => e1
          with_reducible rename (_ : Str) = Str.ofString "Expected " ++ _ => e2
          with_reducible rename (_ : Str) = _ ++ Str.ofString " (at end of document)" => e3
          rw [e3, e2, e1]
          exact ret _ _ _ (by rw [hal]; exact .eof _ rfl rfl) (by assumption) (fun q hq => (by assumption : News h₀ L _ (_ :: _ :: _ :: news)) q (.tail _ (.tail _ (.tail _ hq))))
        | false =>
          (try k_fold)
          k_steps
          exact ⟨fun _ => rfl, _, _, rfl, by assumption, fun q hq => (by assumption : News g' L' _ (_ :: _)) q (.tail _ hq)⟩
      | cons a0 ar =>
        (try k_fold)
        k_steps
        unfold Stop
        refine eq_led (ns := a0 :: ar) (ms := []) (ys := []) (by assumption) (.tail _ (.head _)) (.head _) hys .nil (by ktr_units) ?_
        rw [decide_eq_false (by simp)]
        (try k_fold)
        k_steps
        exact ⟨nofun, _, _, rfl, by assumption, fun q hq => (by assumption : News g' L' _ (_ :: _)) q (.tail _ hq)⟩
    intro s2 hJ
    refine hJ.elim ?_
    intro h4 tk4 hP1 F4 N4
    clear hJ
    unfold dueM at F4
    refine join_at (StE g' L' s (dueM D3 fs fa b x t3 p t) ((D3, LCg.lst ys) :: (L' + 1, oc) :: news) (endOf p al)) ?_ ?_
    · cases al with
      | nil =>
        cases hys
        (try k_fold)
        k_steps
        unfold Stop
        refine ne_led (ns := []) (ms := []) (xs := []) (ys := []) (by assumption) (.tail _ (.head _)) (.head _) .nil .nil (by ktr_units) ?_
        (try k_fold)
        k_steps
        exact ⟨_, trivial, _, _, rfl, by assumption, fun q hq => (by assumption : News g' L' _ (_ :: _)) q (.tail _ hq)⟩
      | cons a0 ar =>
        have hys2 := hys
        cases hys
        (try k_fold)
        k_steps
        unfold Stop
        refine ne_led (ns := a0 :: ar) (ms := []) (ys := []) (by assumption) (.tail _ (.head _)) (.head _) hys2 .nil (by ktr_units) ?_
        rw [decide_eq_false (by simp)]
        (try k_fold)
        k_steps
        exact ⟨_, trivial, _, _, rfl, by assumption, fun q hq => (by assumption : News g' L' _ (_ :: _)) q (.tail _ hq)⟩
    intro s2 hJ
    refine hJ.elim ?_
    intro te h5 tk5 F5 N5
    clear hJ
    have he1 : pos ≤ endOf p al ∧ endOf p al ≤ p.length := by
      cases al with
      | nil => exact ⟨h1, Int.le_refl _⟩
      | cons a0 ar => exact hal' a0 (.head _)
    generalize hen : endOf p al = en at he1 F5
    unfold dueM at F5
    clear F4 N4 F3 N3 F0 N'
    (try k_fold)
    k_steps
    unfold Stop
    rename Fr g' L' _ (fun z => if z = Str.ofString "end" then _ else _) => F5b
    rename News g' L' _ _ => N5b
    refine due_M F5b ?_
    intro M F5c
    refine led_gen2 (news := news) N5b (.tail _ (.tail _ hfs)) (fun q hq => .tail _ (.tail _ hq)) ?_
    intro led N5c hfsL hsubL
    clear F5b N5b
    refine iter_rangeG (n := (en - pos).toNat) (DueJ led S p t pos en te fs M) rfl (by assumption) (small_one (by omega) (by omega) (by omega) (by omega)) ?_ F5c N5c ?_ ?_ ?_
    · rw [rangeSize_one]; omega
    · exact ⟨rfl, fun j h1 h2 => by omega, fun y _ => rfl⟩
    · rintro i ti m₁ nx h6 tk6 own I hi hown hI hnx ⟨rfl, hno, hm⟩ F6 N6
      replace F6 := fr_eq F6 hm
      unfold dueN at F6
      obtain ⟨q, hq⟩ : ∃ q : Nat, pos + (i : Int) = q := ⟨(pos + i).toNat, by omega⟩
      rw [hq] at F6
      have hql : q < p.length := by omega
      have F6' : Fr g' L' h6 _ := F6
      have N6' : News g' L' h6 _ := N6
      clear F6 N6
      (try k_fold)
      k_steps
      unfold Stop
      have hfsN := N6' (fs, fso) (List.mem_append_left _ hfsL)
      rw [item_ch hql]
      refine fs_in hfsN.1 hS hn ?_
      cases hSq : S (chS p q) with
      | false =>
        (try k_fold)
        k_steps
        refine ⟨_, _, _, _, _, rfl, F6', N6', fun q hq => List.mem_append_left _ hq, fun q hq => List.mem_append_right _ hq, hnx, rfl, fun j hj1 hj2 => ?_, fun y hy => if_neg hy⟩
        by_cases hjq : j = q
        · rw [hjq]; exact hSq
        · exact hno j hj1 (by omega)
      | true =>
        (try k_fold)
        k_steps
        refine mk_pat B' (by assumption) X' (by assumption) T' rfl (by ktr_room) (by ktr_units) hp hql ?_
        intro e d oe od al' h7 tk7 t7 t8 I7 hln hcl F7 N7
        have hrb := rf_bounds (x := p) (y := Str.ofString "\n") (lo := fromIndex p.length 0) (hi := min (fromIndex p.length (q : Int)) p.length)
        have hcb := StrLaws.occ_length_le p (Str.ofString "\n") (fromIndex p.length 0) (min (fromIndex p.length (q : Int)) p.length) (p.length + 1)
        rw [from_nat (i := q)] at hrb
        generalize hcE : ((occurrences p (Str.ofString "\n") (fromIndex p.length 0) (min (fromIndex p.length (q : Int)) p.length) (p.length + 1)).length : Nat) = c at hln hcb
        generalize hrE : rf p (Str.ofString "\n") (fromIndex p.length 0) (min (fromIndex p.length (q : Int)) p.length) = r at hcl
        rw [from_nat (i := q)] at hrE
        rw [hrE] at hrb
        have hcr : (reprText (Txt.item p (q : Int))).length ≤ 60 := by
          rw [item_ch hql]
          refine Nat.le_trans (StrLaws.reprText_len _ (fun c hc => ?_)) (by rw [chS_len]; omega)
          exact hpc c (ch_mem hql hc)
        (try k_fold)
        k_steps
        unfold InvPostI
        dsimp only
        (try k_fold)
        k_steps
        have hzz := due_eq (q := q) hql (by with_reducible assumption) (by with_reducible assumption) (by with_reducible assumption) (by with_reducible assumption) (by with_reducible assumption) (by with_reducible assumption) (by with_reducible assumption) (by with_reducible assumption) hcE hrE
        rw [hzz]
        exact ret _ _ _ (by rw [hal]; exact .bar q _ hP1 (by omega) (by rw [hen]; omega) hSq (fun j hj1 hj2 => hno j hj1 (by omega))) (by assumption) (fun r hr => (by assumption : News h₀ L _ (_ :: _ :: _)) r (.tail _ (.tail _ (List.mem_append_left _ (hsubL r hr)))))
    · rintro m₁ nx h6 tk6 ⟨rfl, hno, hm⟩ F6 N6
      replace F6 := fr_done F6 hm
      unfold dueN at F6
      (try k_fold)
      k_steps
      exact ret _ _ _ (by rw [hal, ← hen]; exact .val te hP1 (fun j hj1 hj2 => hno j hj1 (by omega))) (by assumption) (fun q hq => (by assumption : News h₀ L _ _) q (hsubL q hq))
  · exact grows_ahead pos
end Mine
end
section -- CTab
theorem Mine.rstCTab : True := by
  w_top off
  trivial
open PySem PySem.W PyProof.Rows PySem.Calls PySem.Builtin.Str PyProof
set_option Elab.async false
set_option maxRecDepth 100000
set_option maxHeartbeats 1000000
namespace Mine
theorem fill5 : (PySem.Challenge.rw_nb0185_01 = PySem.Challenge.rw_nb0185_01 ∧ Mine.hd.heap_39 = Mine.hd.heap_39) → True := by k_fill; intro _; trivial
theorem wdCTaba : True := by
  k_with_none
  k_with "pyIter ref" => (k_here; refine Stop.mk' ?_)
  k_with "setItem ref int" => (k_here; refine Stop.mk' ?_)
  k_with "exec While" => (k_here; refine Stop.mk' ?_)
  k_with "exec While Compare" => (k_here; refine Stop.mk' ?_)
  trivial
/-- the table's list stands in the ledger -/
noncomputable def TabJ (g : Heap) (L : Addr) (s : Shared) (p : Str) (t : Tok) (news : List (Addr × Obj)) (s' : Shared) : Prop :=
  ∃ D vs n h tk, s' = { s with heap := h, toks := tk } ∧ Fr g L h (fun y => if y = Str.ofString "table" then some (.ref D) else [(Str.ofString "prefix", Value.str p t)].lookup y) ∧ News g L h ((D, lsO vs n) :: news) ∧ IntsAre vs (List.replicate p.length 0) ∧ ∀ q ∈ news, q.1 ≠ D
theorem allLt_mem {d : Nat} : ∀ {l : List (Addr × Obj)}, AllLt d l → ∀ q ∈ l, q.1 < d
  | [], _, _, h => nomatch h
  | _ :: _, h, q, hq => by
    rcases List.mem_cons.mp hq with rfl | hq
    · exact h.1
    · exact allLt_mem h.2 q hq
theorem tab_mk {g h : Heap} {L D : Addr} {s : Shared} {p : Str} {t : Tok} {news : List (Addr × Obj)} {l : Addr × Obj} {vs : List Value} {n tk : Nat} {P : Prop} (F : Fr g L h (fun y => if y = Str.ofString "table" then some (.ref D) else [(Str.ofString "prefix", Value.str p t)].lookup y))
    (N : News g L h ((D, lsO vs n) :: l :: news)) (I : IntsAre vs (List.replicate p.length 0)) (h3 : P ∧ AllLt D news) : TabJ g L s p t news { s with heap := h, toks := tk } :=
  ⟨D, vs, n, h, tk, rfl, F, fun q hq => N q (by
    rcases List.mem_cons.mp hq with rfl | hq
    · exact .head _
    · exact .tail _ (.tail _ hq)), I, fun q hq => Nat.ne_of_lt (allLt_mem h3.2 q hq)⟩
theorem flat_rep (n : Nat) : (List.replicate n [(0 : Int)]).flatten = List.replicate n 0 := by
  induction n with
  | zero => rfl
  | succ n ih => rw [List.replicate_succ, List.flatten_cons, ih, List.replicate_succ]; rfl
theorem fr_eq2 {g h : Heap} {L : Addr} {m M : Str → Option Value} {x z : Str} {v : Option Value} (F : Fr g L h (fun y => if y = x then v else m y)) (e : ∀ y, y ≠ x → y ≠ z → m y = M y) : Fr g L h (fun y => if y = x then v else if y = z then m z else M y) := by
  have : (fun y => if y = x then v else m y) = (fun y => if y = x then v else if y = z then m z else M y) := by
    funext y
    by_cases h : y = x
    · simp only [if_pos h]
    · simp only [if_neg h]
      by_cases h2 : y = z
      · rw [if_pos h2, h2]
      · rw [if_neg h2]; exact e y h h2
  rwa [this] at F
theorem fr_done2 {g h : Heap} {L : Addr} {m M : Str → Option Value} {x z : Str} (F : Fr g L h m) (e : ∀ y, y ≠ x → y ≠ z → m y = M y) : Fr g L h (fun y => if y = x then m x else if y = z then m z else M y) := by
  have : m = (fun y => if y = x then m x else if y = z then m z else M y) := by
    funext y
    by_cases h : y = x
    · rw [if_pos h, h]
    · rw [if_neg h]
      by_cases h2 : y = z
      · rw [if_pos h2, h2]
      · rw [if_neg h2]; exact e y h h2
  rwa [← this]
theorem fr_twice' {g h : Heap} {L : Addr} {m : Str → Option Value} {x : Str} {u v : Option Value} (F : Fr g L h (fun y => if y = x then v else if y = x then u else m y)) : Fr g L h (fun y => if y = x then v else m y) := by
  have : (fun y => if y = x then v else if y = x then u else m y) = (fun y => if y = x then v else m y) := by
    funext y
    by_cases h : y = x
    · simp only [if_pos h]
    · simp only [if_neg h]
  rw [this] at F
  exact F
noncomputable def TabO (p : Str) (t : Tok) (D : Addr) (news : List (Addr × Obj)) (i : Nat) (m₁ : Str → Option Value) (nx : List (Addr × Obj)) : Prop :=
  ∃ vs' n', nx = (D, lsO vs' n') :: news ∧ IntsAre vs' (tabN (fun j => p.cps.getD j 0) p.length (i + 1)) ∧ ∀ y, y ≠ Str.ofString "i" → y ≠ Str.ofString "idx" → m₁ y = (fun y => if y = Str.ofString "table" then some (.ref D) else [(Str.ofString "prefix", Value.str p t)].lookup y) y
noncomputable def tabF (D : Addr) (p : Str) (t : Tok) (k : Nat) (ti : Tok) (mi : Option Value) (x : Nat) (tx : Tok) (y : Str) : Option Value :=
  if y = Str.ofString "idx" then some (.int x tx) else if y = Str.ofString "i" then some (.int k ti) else if y = Str.ofString "idx" then mi else if y = Str.ofString "table" then some (.ref D) else [(Str.ofString "prefix", Value.str p t)].lookup y
noncomputable def TabW (g : Heap) (L : Addr) (s : Shared) (D : Addr) (p : Str) (t : Tok) (k : Nat) (ti : Tok) (mi : Option Value) (led : List (Addr × Obj)) (n : Nat) (s' : Shared) : Prop :=
  ∃ (x : Nat) (tx : Tok) (h9 : Heap) (tk9 : Nat), s' = { s with heap := h9, toks := tk9 } ∧ n = x ∧ IW (fun j => p.cps.getD j 0) k x ∧ Fr g L h9 (tabF D p t k ti mi x tx) ∧ News g L h9 led
theorem inv_tab {g h' : Heap} {L D I : Addr} {s : Shared} {tk tk6 : Nat} {h6 : Heap} {M1 : Str → Option Value} {vs2 : List Value} {n2 : Nat} {news own : List (Addr × Obj)} {T : List Int} {p : Str} {t : Tok} {i : Nat} (F : Fr g L h' M1) (N : News g L h' ((D, lsO vs2 n2) :: (news ++ own))) (hnx : ∀ {o : Obj}, ∀ q ∈ (D, o) :: news, q.1 ≠ I)
    (I10 : IntsAre vs2 T) (e : T = tabN (fun j => p.cps.getD j 0) p.length (i + 1)) (hm : ∀ y, y ≠ Str.ofString "i" → y ≠ Str.ofString "idx" → M1 y = (fun y => if y = Str.ofString "table" then some (.ref D) else [(Str.ofString "prefix", Value.str p t)].lookup y) y) :
    InvEndI g L (TabO p t D news i) own I { s with heap := h6, toks := tk6 } { s with heap := h', toks := tk } :=
  ⟨h', tk, M1, _, (D, lsO vs2 n2) :: news, rfl, F, N, fun q hq => by
    rcases List.mem_cons.mp hq with rfl | hq
    · exact .head _
    · exact .tail _ (List.mem_append_left _ hq), fun q hq => .tail _ (List.mem_append_right _ hq), hnx, vs2, n2, rfl, e ▸ I10, hm⟩
theorem item_ne {p : Str} {i j : Nat} (hi : i < p.length) (hj : j < p.length) : (Txt.item p (i : Int) != Txt.item p (j : Int)) = !decide (p.cps.getD i 0 = p.cps.getD j 0) := by
  rw [item_ch hi, item_ch hj]
  unfold chS
  by_cases h : p.cps.getD i 0 = p.cps.getD j 0
  · rw [h]; simp
  · simp only [h, decide_false, Bool.not_false]
    rw [bne_iff_ne]
    intro z
    apply h
    have z1 := congrArg (fun s : Str => s.cps.toList) z
    simpa using z1
theorem TabJ.elim {g : Heap} {L : Addr} {s s' : Shared} {p : Str} {t : Tok} {news : List (Addr × Obj)} {P : Shared → Prop} (h : TabJ g L s p t news s')
    (k : ∀ D vs n h tk, Fr g L h (fun y => if y = Str.ofString "table" then some (.ref D) else [(Str.ofString "prefix", Value.str p t)].lookup y) → News g L h ((D, lsO vs n) :: news) → IntsAre vs (List.replicate p.length 0) → (∀ q ∈ news, q.1 ≠ D) → P { s with heap := h, toks := tk }) : P s' := by
  obtain ⟨D, vs, n, h, tk, rfl, h1, h2, h3, h4⟩ := h
  exact k D vs n h tk h1 h2 h3 h4
theorem TabO.elim {p : Str} {t : Tok} {D : Addr} {news nx : List (Addr × Obj)} {i : Nat} {m₁ : Str → Option Value} {P : Prop} (h : TabO p t D news i m₁ nx)
    (k : ∀ vs' n', nx = (D, lsO vs' n') :: news → IntsAre vs' (tabN (fun j => p.cps.getD j 0) p.length (i + 1)) → (∀ y, y ≠ Str.ofString "i" → y ≠ Str.ofString "idx" → m₁ y = (fun y => if y = Str.ofString "table" then some (.ref D) else [(Str.ofString "prefix", Value.str p t)].lookup y) y) → P) : P := by
  obtain ⟨vs', n', h1, h2, h3⟩ := h
  exact k vs' n' h1 h2 h3
theorem TabW.elim {g : Heap} {L : Addr} {s s' : Shared} {D : Addr} {p : Str} {t : Tok} {k : Nat} {ti : Tok} {mi : Option Value} {led : List (Addr × Obj)} {n : Nat} {P : Shared → Prop} (h : TabW g L s D p t k ti mi led n s')
    (q : ∀ (x : Nat) (tx : Tok) (h9 : Heap) (tk9 : Nat), n = x → IW (fun j => p.cps.getD j 0) k x → Fr g L h9 (tabF D p t k ti mi x tx) → News g L h9 led → P { s with heap := h9, toks := tk9 }) : P s' := by
  obtain ⟨x, tx, h9, tk9, rfl, h1, h2, h3, h4⟩ := h
  exact q x tx h9 tk9 h1 h2 h3 h4
theorem call_tab {w : World} {mean : ExcName → Option Value} {mg mb : Str → Option Value} {dp un : Nat} {gd : Option (List Code)} {cn : Str} {cs : Scope} {a : Addr} {ccd : Value} {cl : List (Str × Addr)} {outer : List Env} {A₀ : Around} {base h₀ : Heap} {L : Addr} {m : Str → Option Value} {s : Shared} {Q E : Value → Shared → Prop} {news : List (Addr × Obj)} {p : Str} {t : Tok}
  (B : Below A₀ base outer h₀) (F : Fr h₀ L s.heap m) (X : (Mine.hd.heap_39 w.params).In h₀) (N : News h₀ L s.heap news)
  (T : Top topProg looseX mean mg mb h₀)
  (hk : cs.kind = .function) (hdp : dp + 4 < recursionLimit) (hun : un + 100 < cLine)
  (hp : p.length ≤ 60) (hp1 : 0 < p.length)
  (ret : ∀ D vs n h' tk, IntsAre vs (tabN (fun j => p.cps.getD j 0) p.length p.length) → (∀ q ∈ news, q.1 ≠ D) → Fr h₀ L h' m → News h₀ L h' ((D, lsO vs n) :: news) → Q (.ref D) { s with heap := h', toks := tk }) :
  wpAny (model Challenge.rw_nb0185_01.row.prog w) (myTop none dp un gd cn cs L a ccd cl outer) (call (.ref 66) [.str p t]) Q E s := by
  have hun' : un + 100 < cLine := hun
  refine wpAny_call ?_
  k_dflt cell_enter
  rename_i g' L' h' FG' F' N' B' X' T'
  have F0 : Fr g' L' h' (fun y => [(Str.ofString "prefix", Value.str p t)].lookup y) := F'
  clear F'
  refine join_at (TabJ g' L' s p t news) ?_ ?_
  · (try k_fold)
    k_steps
    rename IntsAre _ _ => i1
    rw [show ((p.length : Int)).toNat = p.length from Int.toNat_natCast _, flat_rep] at i1
    rename News g' L' _ _ => N3
    rename _ ∧ AllLt _ _ => l3
    exact tab_mk (by assumption) N3 i1 l3
  intro s2 hJ
  refine hJ.elim ?_
  intro D vs n h2 tk2 F2 N2 I2 hD
  clear hJ
  (try k_fold)
  k_steps
  unfold Stop
  refine iter_rangeG (n := p.length - 1) (TabO p t D news) rfl (by assumption) (small_one (by omega) (by omega) (by omega) (by omega)) ?_ (by assumption) (by assumption) ?_ ?_ ?_
  · rw [rangeSize_one]; split <;> omega
  · exact ⟨vs, n, rfl, by rw [tabN_one]; exact I2, fun y _ _ => rfl⟩
  · intro i ti m₁ nx h6 tk6 own I hi hown hI hnx hJ F6 N6
    refine hJ.elim ?_
    intro vs' n' hnxe I6 hm
    rw [hnxe] at hnx N6
    clear hJ hnxe
    have F7 : Fr g' L' h6 _ := fr_eq2 F6 hm
    have N7 : News g' L' h6 _ := N6
    clear F6 N6
    obtain ⟨k, hk⟩ : ∃ k : Nat, (1 : Int) + (i : Int) = k := ⟨1 + i, by omega⟩
    rw [hk] at F7
    have hl6 := I6.length
    rw [tabN_length] at hl6
    have hneD : ∀ q ∈ news ++ own, q.1 ≠ D := fun q hq => by
      rcases List.mem_append.mp hq with hq | hq
      · exact hD q hq
      · rw [hown q hq]
        exact Ne.symm (hnx _ (.head _))
    have hnx3 : ∀ {o : Obj}, ∀ q ∈ (D, o) :: news, q.1 ≠ I := fun q hq => by
      rcases List.mem_cons.mp hq with rfl | hq
      · exact hnx (D, lsO vs' n') (.head _)
      · exact hnx q (.tail _ hq)
    (try k_fold)
    k_steps
    unfold Stop
    have hx0 : (tabN (fun j => p.cps.getD j 0) p.length (i + 1)).getD ((k : Int) - 1).toNat 0 = ((bd (fun j => p.cps.getD j 0) i : Nat) : Int) := by
      rw [show ((k : Int) - 1).toNat = i by omega]
      exact tabN_get (by omega) (by omega)
    rename Fr g' L' _ _ => F8
    rename News g' L' _ _ => N8
    rw [hx0] at F8
    refine while_at (TabW g' L' s D p t k ti (m₁ (Str.ofString "idx")) ((D, lsO vs' n') :: news ++ own)) ?_ ?_ (bd (fun j => p.cps.getD j 0) i) ?_
    · passes_own
    · intro n1 s4 hJ
      refine hJ.elim ?_
      intro x tx h9 tk9 hn1 hIW F9 N9
      clear hJ
      unfold tabF at F9
      have hx1 : x ≤ i := by have := bdr_le hIW.1; omega
      (try k_fold)
      k_steps
      rw [item_ne (by omega) (by omega)]
      by_cases hc : p.cps.getD k 0 = p.cps.getD x 0
      · rw [decide_eq_true hc]
        refine .off ?_
        (try k_fold)
        k_steps
        unfold Stop
        refine set_led (led := news ++ own) (by assumption) (by assumption) I6 hneD (by rw [tabN_length]; omega) (by omega) ?_
        intro h10 n10 F10 N10 I10
        (try k_fold)
        k_steps
        refine inv_tab F10 N10 hnx3 I10 ?_ (fun y hy1 hy2 => ?_)
        · rw [← tabN_set (k := i + 1), show i + 1 = k by omega, hIW.hit (by omega) hc]
          rfl
        · simp only [if_neg hy1, if_neg hy2]
      · rw [decide_eq_false hc]
        refine .on ?_
        cases x with
        | zero =>
          (try k_fold)
          k_steps
          unfold Stop
          refine set_led (led := news ++ own) (by assumption) (by assumption) I6 hneD (by rw [tabN_length]; omega) (by omega) ?_
          intro h10 n10 F10 N10 I10
          (try k_fold)
          k_steps
          show wpAny (model _ _) _ (execs [] _) _ _ _
          (try k_fold)
          k_steps
          refine inv_tab F10 N10 hnx3 I10 ?_ (fun y hy1 hy2 => ?_)
          · rw [← tabN_set (k := i + 1), show i + 1 = k by omega, hIW.zero (by omega) hc]
            rfl
          · simp only [if_neg hy1, if_neg hy2]
        | succ x =>
          (try k_fold)
          k_steps
          · exact absurd (by assumption : ((x + 1 : Nat) : Int) = 0) (by omega)
          · have hx9 : (tabN (fun j => p.cps.getD j 0) p.length (i + 1)).getD (((x + 1 : Nat) : Int) - 1).toNat 0 = ((bd (fun j => p.cps.getD j 0) x : Nat) : Int) := by
              rw [show (((x + 1 : Nat) : Int) - 1).toNat = x by omega]
              exact tabN_get (by omega) (by omega)
            rename Fr g' L' _ _ => F11
            rw [hx9] at F11
            have hIW' := hIW.back (by omega) hc
            rw [Nat.add_sub_cancel] at hIW'
            exact ⟨bd (fun j => p.cps.getD j 0) x, by have := bd_le (fun j => p.cps.getD j 0) x; omega, bd (fun j => p.cps.getD j 0) x, _, _, _, rfl, rfl, hIW', fr_twice' F11, by assumption⟩
    · refine ⟨bd (fun j => p.cps.getD j 0) i, _, _, _, rfl, rfl, ?_, F8, N8⟩
      have := IW.start (c := fun j => p.cps.getD j 0) (i := k)
      rwa [show k - 1 = i by omega] at this
  · rintro m₁ nx h6 tk6 ⟨vs', n', rfl, I6, hm⟩ F6 N6
    replace F6 := fr_done2 F6 hm
    (try k_fold)
    k_steps
    exact ret _ _ _ _ _ (by rw [show p.length - 1 + 1 = p.length by omega] at I6; exact I6) hD (by assumption) (by assumption)
end Mine
end
end
theorem Mine.lookB {M : PySem.Model} {A : PySem.Around} {env : PySem.Env} {Q : PySem.Flow → PySem.Shared → Prop} {E : PySem.Value → PySem.Shared → Prop} {s : PySem.Shared} (h : PySem.wpAny M A (PySem.execs [] env) Q E s) : PySem.wpAny M A (PySem.execs [] env) Q E s := by
  w_top off
  first | (walk1; done) | exact h
section -- words
local macro_rules | `(tactic| walk_at $s:str) => `(tactic| k_extra $s)
section -- CLaw1
theorem Mine.rstCLaw1 : True := by
  w_top off
  trivial
open PySem PySem.W PyProof.Rows PySem.Calls PySem.Builtin.Str PyProof
set_option Elab.async false
set_option maxRecDepth 100000
set_option maxHeartbeats 2000000
set_option linter.unusedVariables false
namespace Mine
theorem fill6 : (PySem.Challenge.rw_nb0185_01 = PySem.Challenge.rw_nb0185_01 ∧ Mine.hd.heap_39 = Mine.hd.heap_39) → True := by k_fill; intro _; trivial
/-- a new list under a name -/
noncomputable def LJ1 (g : Heap) (L : Addr) (s : Shared) (x : Str) (M : Str → Option Value) (led : List (Addr × Obj)) (ns : List Int) (s' : Shared) : Prop :=
  ∃ a vs n h tk, s' = { s with heap := h, toks := tk } ∧ Fr g L h (fun y => if y = x then some (.ref a) else M y) ∧ News g L h ((a, lsO vs n) :: led) ∧ IntsAre vs ns ∧ ∀ q ∈ led, @LT.lt Nat _ q.1 a
theorem lj_mk {g h : Heap} {L a : Addr} {s : Shared} {x : Str} {M : Str → Option Value} {led : List (Addr × Obj)} {ns : List Int} {q : Addr × Obj} {vs : List Value} {n tk : Nat} (F : Fr g L h (fun y => if y = x then some (.ref a) else M y)) (N : News g L h ((a, lsO vs n) :: q :: led)) (I : IntsAre vs ns) (hne : ∀ q ∈ led, @LT.lt Nat _ q.1 a) :
    LJ1 g L s x M led ns { s with heap := h, toks := tk } := ⟨a, vs, n, h, tk, rfl, F, fun r hr => N r (by
    rcases List.mem_cons.mp hr with rfl | hr
    · exact .head _
    · exact .tail _ (.tail _ hr)), I, hne⟩
noncomputable def sg (x : Int) : Str := Txt.item (Str.ofString "aab\n!") (Int.fmod x 5)
theorem sg_len (x : Int) : (sg x).length = 1 := rfl
section
variable {w : World} {mean : ExcName → Option Value} {mg mb : Str → Option Value} {g0 h1 : Heap} {L fa sc : Addr} {s : Shared} {vs0 : List Value} {ns0 : List Int} {Q : Flow → Shared → Prop} {E : Value → Shared → Prop}
  {nm qn : Str} {params : Arguments} {body : List Stmt} {scope : Scope} {dV kV doc pm ct oc : Value} {an od : Option Addr} {osl : Array (Option Value)}
noncomputable abbrev LawFn (w : World) (nm qn : Str) (params : Arguments) (body : List Stmt) (scope : Scope) (dV kV doc pm ct oc : Value) (an od : Option Addr) (osl : Array (Option Value)) : Prop :=
  (Mine.hd.heap_39 w.params).lookup 106 = some ⟨oc, od, .func (fnOf nm qn params body scope dV kV doc pm an (.ref 105) ct), osl⟩
noncomputable abbrev lawA (nm : Str) (scope : Scope) (L fa : Addr) : Around := callerA.deeper (envOfC nm scope L fa (.ref 105))
theorem wdCLaw1a : True := by
  k_with_none
  k_with "eval ListComp" => (k_here; refine Stop.mk' ?_)
  k_with "CompSrc" => (k_here; refine Stop.mk' ?_)
  trivial
theorem law_1 {o1 o2 o3 : Obj} (hb : LawFn w nm qn params body scope dV kV doc pm ct oc an od osl)
  (B : Below callerA g0 [] g0) (X : (Mine.hd.heap_39 w.params).In g0) (T : Top topProg looseX mean mg mb g0)
  (hsc : g0.IsList sc vs0.toArray) (hI : IntsAre vs0 ns0) (hlen : ns0.length ≤ 63)
  (F : Fr g0 L h1 (fun y => if y = Str.ofString "script" then some (.ref sc) else none))
  (N : News g0 L h1 [(L + 1 + 1 + 1, o3), (L + 1 + 1, o2), (L + 1, o1), (36, tabObj #[]), (103, tabObj #[])])
  (next : ∀ s', LJ1 g0 L s (Str.ofString "numbers") (fun y => if y = Str.ofString "script" then some (.ref sc) else none) [(L + 1 + 1 + 1, o3), (L + 1 + 1, o2), (L + 1, o1), (36, tabObj #[]), (103, tabObj #[])] (if ns0 = [] then [0] else ns0.take 20) s' →
    wpAny (model Challenge.rw_nb0185_01.row.prog w) (lawA nm scope L fa) (execs (body.drop 1) (envOfC nm scope L fa (.ref 105))) Q E s') :
  wpAny (model Challenge.rw_nb0185_01.row.prog w) (lawA nm scope L fa) (execs body (envOfC nm scope L fa (.ref 105))) Q E { s with heap := h1 } := by
  unfold LawFn at hb
  conv at hb => lhs; whnf
  cases hb
  refine join_at _ ?_ next
  (try k_fold)
  k_steps
  · rename News _ _ _ _ => N'
    rename 0 < _ => hp
    have hne : ¬ ns0 = [] := fun z => by rw [z] at hp; exact absurd hp (by decide)
    rw [if_neg hne]
    refine ⟨_, _, _, _, _, rfl, by assumption, N', by assumption, fun q hq => ?_⟩
    rename _ < _ ∧ _ => hlt
    simp only [List.mem_cons, List.mem_nil_iff, or_false] at hq
    rcases hq with rfl | rfl | rfl | rfl | rfl <;> first | exact hlt.1 | exact hlt.2.1 | exact hlt.2.2.1 | exact hlt.2.2.2.1 | exact hlt.2.2.2.2
  · rename News _ _ _ _ => N'
    rename ¬ 0 < _ => hp
    have hne : ns0 = [] := by
      cases ns0 with
      | nil => rfl
      | cons a r => exact absurd (by simp) hp
    rw [if_pos hne]
    refine lj_mk (vs := [Value.int 0 _]) (by assumption) N' (.cons 0 _ .nil) (fun q hq => ?_)
    rename _ < _ ∧ _ => hlt
    simp only [List.mem_cons, List.mem_nil_iff, or_false] at hq
    rcases hq with rfl | rfl | rfl | rfl | rfl <;> first | exact hlt.2.1 | exact hlt.2.2.1 | exact hlt.2.2.2.1 | exact hlt.2.2.2.2.1 | exact hlt.2.2.2.2.2
theorem wdCLaw1b : True := by
  k_with "execs cons" => (k_here; refine Stop.mk' ?_)
  k_with "call builtin:str.join" => (k_here; refine Stop.mk' ?_)
  trivial
theorem law_2 {o1 o2 o3 : Obj} {a : Addr} {vs : List Value} {n : Nat} {ns : List Int} (hb : LawFn w nm qn params body scope dV kV doc pm ct oc an od osl)
  (B : Below callerA g0 [] g0) (X : (Mine.hd.heap_39 w.params).In g0) (T : Top topProg looseX mean mg mb g0)
  (F : Fr g0 L h1 (fun y => if y = Str.ofString "numbers" then some (.ref a) else if y = Str.ofString "script" then some (.ref sc) else none))
  (N : News g0 L h1 ((a, lsO vs n) :: [(L + 1 + 1 + 1, o3), (L + 1 + 1, o2), (L + 1, o1), (36, tabObj #[]), (103, tabObj #[])])) (I : IntsAre vs ns) (hl : ns.length ≤ 20) (hl1 : 0 < ns.length)
  (d3 : o3.data = .cell none) (hL1 : @LT.lt Nat _ 36 L) (hL2 : @LT.lt Nat _ 103 L) (ha : @LT.lt Nat _ (L + 1 + 1 + 1) a)
  (next : ∀ TX tt o3' h' tk, TX = Txt.join (Str.ofString "") (ns.map sg) → TX.length = ns.length → o3'.data = .cell (some (.str TX tt)) → Fr g0 L h' (fun y => if y = Str.ofString "numbers" then some (.ref a) else if y = Str.ofString "script" then some (.ref sc) else none) →
    News g0 L h' ((a, lsO vs n) :: [(L + 1 + 1 + 1, o3'), (L + 1 + 1, o2), (L + 1, o1), (36, tabObj #[]), (103, tabObj #[])]) →
    wpAny (model Challenge.rw_nb0185_01.row.prog w) (lawA nm scope L fa) (execs (body.drop 2) (envOfC nm scope L fa (.ref 105))) Q E { s with heap := h', toks := tk }) :
  wpAny (model Challenge.rw_nb0185_01.row.prog w) (lawA nm scope L fa) (execs (body.drop 1) (envOfC nm scope L fa (.ref 105))) Q E { s with heap := h1 } := by
  unfold LawFn at hb
  conv at hb => lhs; whnf
  cases hb
  dsimp only [List.drop] at next ⊢
  refine wpAny_execs_cons ?_
  (try k_fold)
  k_steps
  unfold Stop
  refine LCg.ListComp_U (F₀ := F) (by with_unfolding_all rfl) (by decide) (by rfl) (by decide) (by rfl) ?_
  (try k_fold)
  k_steps
  unfold Stop
  refine LCg.CompSrc.ledger rfl (by assumption) (by assumption) (.head _) (by rw [List.size_toArray, I.length]; exact Nat.le_trans hl (by decide)) ?_
  intro g2
  refine kct_list sg I ?_ ?_
  · intro k t' I' oI C oC D m₂ ys h2 tk2 E' hk' hC' hx' F2 N2 off2 ne2 mark2
    have hf1 := fmod_lo k (n := 5) (by decide)
    have hf2 := fmod_hi k (n := 5) (by decide)
    (try k_fold)
    k_steps
    refine LCg.CompEnd.intro (by assumption) (by assumption) _ (fun p hp => hp) off2 (.inr ⟨_, .head _, rfl, _, rfl⟩) (kct_el rfl rfl rfl)
  · unfold KPfDone
    intro ys hys hyl
    unfold LCg.FinE
    intro D h3 tk3 F3 N3 o3'
    simp only [LCg.Off1, and_true] at o3'
    (try k_fold)
    k_steps
    unfold Stop
    refine KT.join_1 ⟨_, (N3 _ (.head _)).1, rfl, _, rfl⟩ hys (fun _ _ => sg_len _) (by omega) ?_
    intro tt tk4 hTl
    generalize hTX : Txt.join (Str.ofString "") (List.map sg ns) = TX at hTl ⊢
    (try k_fold)
    k_steps
    unfold Stop
    rename News _ _ _ _ => N9
    exact next TX _ _ _ _ hTX.symm hTl (by assumption) (by assumption) (fun q hq => N9 q (.tail _ hq))
end
end Mine
end
section -- CLaw2
theorem Mine.rstCLaw2 : True := by
  w_top off
  trivial
open PySem PySem.W PyProof.Rows PySem.Calls PySem.Builtin.Str PyProof
set_option Elab.async false
set_option maxRecDepth 100000
set_option maxHeartbeats 800000
set_option linter.unusedVariables false
namespace Mine
theorem fill7 : (PySem.Challenge.rw_nb0185_01 = PySem.Challenge.rw_nb0185_01 ∧ Mine.hd.heap_39 = Mine.hd.heap_39) → True := by k_fill; intro _; trivial
section
variable {w : World} {mean : ExcName → Option Value} {mg mb : Str → Option Value} {g0 h1 : Heap} {L fa sc : Addr} {s : Shared} {vs0 : List Value} {ns0 : List Int} {Q : Flow → Shared → Prop} {E : Value → Shared → Prop}
  {nm qn : Str} {params : Arguments} {body : List Stmt} {scope : Scope} {dV kV doc pm ct oc : Value} {an od : Option Addr} {osl : Array (Option Value)}
theorem wdCLaw2a : True := by
  k_with_none
  k_with "execs cons" => (k_here; (try k_gentoks); (try dsimp only); refine Stop.mk' ?_)
  trivial
theorem any_toks {M : Model} {A : Around} {α : Type} {t : Sem α} {Q : α → Shared → Prop} {E : Value → Shared → Prop} {h : Heap} {tk0 : Nat} (k : ∀ tk, wpAny M A t Q E { s with heap := h, toks := tk }) : wpAny M A t Q E { s with heap := h, toks := tk0 } := k tk0
theorem law_3 {o1 o2 o3 : Obj} {a : Addr} {vs : List Value} {n : Nat} {ns : List Int} {TX : Str} {tt : Tok} (hb : LawFn w nm qn params body scope dV kV doc pm ct oc an od osl)
  (B : Below callerA g0 [] g0) (X : (Mine.hd.heap_39 w.params).In g0) (T : Top topProg looseX mean mg mb g0)
  (F : Fr g0 L h1 (fun y => if y = Str.ofString "numbers" then some (.ref a) else if y = Str.ofString "script" then some (.ref sc) else none))
  (N : News g0 L h1 ((a, lsO vs n) :: [(L + 1 + 1 + 1, o3), (L + 1 + 1, o2), (L + 1, o1), (36, tabObj #[]), (103, tabObj #[])])) (I : IntsAre vs ns) (hl : ns.length ≤ 20) (hl1 : 0 < ns.length)
  (d3 : o3.data = .cell (some (.str TX tt))) (hTl : TX.length = ns.length) (d1 : o1.data = .cell none) (d2 : o2.data = .cell none) (hL1 : @LT.lt Nat _ 36 L) (hL2 : @LT.lt Nat _ 103 L) (ha : @LT.lt Nat _ (L + 1 + 1 + 1) a)
  (next : ∀ (st d : Nat) SO tst tso o2' h' tk tz, st < TX.length → d ≤ 3 → SO = Txt.slice (TX ++ Str.ofString "ab") (some (st : Int)) (some ((st + 1 + d : Nat) : Int)) → 1 ≤ SO.length → SO.length ≤ 4 → o2'.data = .cell (some (.int SO.length tz)) →
    Fr g0 L h' (fun y => if y = Str.ofString "sought" then some (.str SO tso) else if y = Str.ofString "start" then some (.int st tst) else if y = Str.ofString "numbers" then some (.ref a) else if y = Str.ofString "script" then some (.ref sc) else none) →
    News g0 L h' ((a, lsO vs n) :: [(L + 1 + 1 + 1, o3), (L + 1 + 1, o2'), (L + 1, o1), (36, tabObj #[]), (103, tabObj #[])]) →
    wpAny (model Challenge.rw_nb0185_01.row.prog w) (lawA nm scope L fa) (execs (body.drop 5) (envOfC nm scope L fa (.ref 105))) Q E { s with heap := h', toks := tk }) :
  wpAny (model Challenge.rw_nb0185_01.row.prog w) (lawA nm scope L fa) (execs (body.drop 2) (envOfC nm scope L fa (.ref 105))) Q E { s with heap := h1 } := by
  unfold LawFn at hb
  conv at hb => lhs; whnf
  cases hb
  dsimp only [List.drop] at next ⊢
  refine wpAny_execs_cons ?_
  (try k_fold)
  k_steps
  unfold Stop
  rename Fr g0 L _ _ => F2
  have hf1 := fmod_lo ((ns.getD (-1 + (ns.length : Int)).toNat 0).fdiv 5) (n := (TX.length : Int)) (by omega)
  have hf2 := fmod_hi ((ns.getD (-1 + (ns.length : Int)).toNat 0).fdiv 5) (n := (TX.length : Int)) (by omega)
  generalize ((ns.getD (-1 + (ns.length : Int)).toNat 0).fdiv 5).fmod (TX.length : Int) = stI at F2 hf1 hf2
  obtain ⟨st, rfl⟩ := Int.eq_ofNat_of_zero_le hf1
  rename News g0 L _ _ => N2
  rename Heap => h2
  obtain ⟨tst, F2⟩ : ∃ tst, Fr g0 L h2 (fun y => if y = Str.ofString "start" then some (.int (st : Int) tst) else if y = Str.ofString "numbers" then some (.ref a) else if y = Str.ofString "script" then some (.ref sc) else none) := ⟨_, F2⟩
  refine wpAny_execs_cons ?_
  (try k_fold)
  k_steps
  unfold Stop
  rename Fr g0 L _ _ => F3
  rename News g0 L _ _ => N3
  rename Heap => h3
  have hd1 := fmod_lo ((ns.getD (Int.toNat 0) 0).fdiv 5) (n := 4) (by decide)
  have hd2 := fmod_hi ((ns.getD (Int.toNat 0) 0).fdiv 5) (n := 4) (by decide)
  obtain ⟨tso, F3⟩ : ∃ tso, Fr g0 L h3 (fun y => if y = Str.ofString "sought" then some (.str (Txt.slice (TX ++ Str.ofString "ab") (some (st : Int)) (some ((st : Int) + 1 + ((ns.getD (Int.toNat 0) 0).fdiv 5).fmod 4))) tso) else if y = Str.ofString "start" then some (.int (st : Int) tst) else if y = Str.ofString "numbers" then some (.ref a) else if y = Str.ofString "script" then some (.ref sc) else none) := ⟨_, F3⟩
  generalize ((ns.getD (Int.toNat 0) 0).fdiv 5).fmod 4 = dI at F3 hd1 hd2
  obtain ⟨d, rfl⟩ := Int.eq_ofNat_of_zero_le hd1
  rw [show ((st : Int) + 1 + (d : Int)) = ((st + 1 + d : Nat) : Int) by omega] at F3
  have hlen := slice_any_len (x := TX ++ Str.ofString "ab") (i := st) (j := st + 1 + d) (by rw [len_app]; omega) (by omega)
  rw [len_app, lit10] at hlen
  generalize hSO : Txt.slice (TX ++ Str.ofString "ab") (some (st : Int)) (some ((st + 1 + d : Nat) : Int)) = SO at F3 hlen
  have hs1 : 1 ≤ SO.length := by omega
  have hs2 : SO.length ≤ 4 := by omega
  refine wpAny_execs_cons ?_
  (try k_fold)
  k_steps
  unfold Stop
  exact next st d SO _ _ _ _ _ _ (by omega) (by omega) hSO.symm hs1 hs2 (by assumption) (by assumption) (by assumption)
end
end Mine
end
section -- CLaw3
theorem Mine.rstCLaw3 : True := by
  w_top off
  trivial
open PySem PySem.W PyProof.Rows PySem.Calls PySem.Builtin.Str PyProof
set_option Elab.async false
set_option maxRecDepth 100000
set_option maxHeartbeats 800000
set_option linter.unusedVariables false
namespace Mine
theorem fill8 : (PySem.Challenge.rw_nb0185_01 = PySem.Challenge.rw_nb0185_01 ∧ Mine.hd.heap_39 = Mine.hd.heap_39) → True := by k_fill; intro _; trivial
section
variable {w : World} {mean : ExcName → Option Value} {mg mb : Str → Option Value} {g0 h1 : Heap} {L fa sc : Addr} {s : Shared} {Q : Flow → Shared → Prop} {E : Value → Shared → Prop}
  {nm qn : Str} {params : Arguments} {body : List Stmt} {scope : Scope} {dV kV doc pm ct oc : Value} {an od : Option Addr} {osl : Array (Option Value)}
theorem wdCLaw3a : True := by
  k_with_none
  k_with "execs cons" => (k_here; (try k_gentoks); (try dsimp only); refine Stop.mk' ?_)
  k_with "binaryOp Add str str" => (k_here; refine add_o (by simp only [lit11]; omega) ?_; intro z hz hl t' tk'; (try simp only [lit11] at hl))
  k_with "call ref" => (k_here; (with_reducible show wpAny _ _ (call (Value.ref 66) _) _ _ _); refine Stop.mk' ?_)
  trivial
theorem law_4 {o1 o2 o3 : Obj} {a : Addr} {vs : List Value} {n : Nat} {TX SO : Str} {tt tz tso tst : Tok} {st : Nat} (hb : LawFn w nm qn params body scope dV kV doc pm ct oc an od osl)
  (B : Below callerA g0 [] g0) (X : (Mine.hd.heap_39 w.params).In g0) (T : Top topProg looseX mean mg mb g0)
  (F : Fr g0 L h1 (fun y => if y = Str.ofString "sought" then some (.str SO tso) else if y = Str.ofString "start" then some (.int st tst) else if y = Str.ofString "numbers" then some (.ref a) else if y = Str.ofString "script" then some (.ref sc) else none))
  (N : News g0 L h1 ((a, lsO vs n) :: [(L + 1 + 1 + 1, o3), (L + 1 + 1, o2), (L + 1, o1), (36, tabObj #[]), (103, tabObj #[])]))
  (d3 : o3.data = .cell (some (.str TX tt))) (hTl : TX.length ≤ 20) (d1 : o1.data = .cell none) (d2 : o2.data = .cell (some (.int SO.length tz))) (hs1 : 1 ≤ SO.length) (hs2 : SO.length ≤ 4) (hL1 : @LT.lt Nat _ 36 L) (hL2 : @LT.lt Nat _ 103 L) (ha : @LT.lt Nat _ (L + 1 + 1 + 1) a)
  (next : ∀ D vsD nD o1' h' tk, IntsAre vsD (tabN (fun j => (SO ++ Str.ofString "|" ++ TX).cps.getD j 0) (SO ++ Str.ofString "|" ++ TX).length (SO ++ Str.ofString "|" ++ TX).length) → o1'.data = .cell (some (.ref D)) →
    (∀ q ∈ [(a, lsO vs n), (L + 1 + 1 + 1, o3), (L + 1 + 1, o2), (L + 1, o1), (36, tabObj #[]), (103, tabObj #[])], q.1 ≠ D) →
    Fr g0 L h' (fun y => if y = Str.ofString "sought" then some (.str SO tso) else if y = Str.ofString "start" then some (.int st tst) else if y = Str.ofString "numbers" then some (.ref a) else if y = Str.ofString "script" then some (.ref sc) else none) →
    News g0 L h' [(D, lsO vsD nD), (a, lsO vs n), (L + 1 + 1 + 1, o3), (L + 1 + 1, o2), (L + 1, o1'), (36, tabObj #[]), (103, tabObj #[])] →
    wpAny (model Challenge.rw_nb0185_01.row.prog w) (lawA nm scope L fa) (execs (body.drop 6) (envOfC nm scope L fa (.ref 105))) Q E { s with heap := h', toks := tk }) :
  wpAny (model Challenge.rw_nb0185_01.row.prog w) (lawA nm scope L fa) (execs (body.drop 5) (envOfC nm scope L fa (.ref 105))) Q E { s with heap := h1 } := by
  unfold LawFn at hb
  conv at hb => lhs; whnf
  cases hb
  dsimp only [List.drop] at next ⊢
  refine wpAny_execs_cons ?_
  (try k_fold)
  k_steps
  unfold Stop
  refine call_tab (A₀ := callerA) (outer := []) B (by assumption) X (by assumption) T rfl (by decide) (by decide) (by omega) (by omega) ?_
  intro D vsD nD hD tkD ID hneD FD ND
  have e1 : @Ne Nat a D := hneD _ (.head _)
  have e2 : @Ne Nat (L + 1 + 1 + 1) D := hneD _ (.tail _ (.head _))
  have e3 : @Ne Nat (L + 1 + 1) D := hneD _ (.tail _ (.tail _ (.head _)))
  have e4 : @Ne Nat (L + 1) D := hneD _ (.tail _ (.tail _ (.tail _ (.head _))))
  (try k_fold)
  k_steps
  unfold Stop
  rename _ = SO ++ _ => hz
  rw [hz] at ID
  exact next _ _ _ _ _ _ ID (by assumption) hneD (by assumption) (by assumption)
end
end Mine
end
section -- CLaw4
theorem Mine.rstCLaw4 : True := by
  w_top off
  trivial
open PySem PySem.W PyProof.Rows PySem.Calls PySem.Builtin.Str PyProof
set_option Elab.async false
set_option maxRecDepth 100000
set_option maxHeartbeats 800000
set_option linter.unusedVariables false
namespace Mine
theorem fill9 : (PySem.Challenge.rw_nb0185_01 = PySem.Challenge.rw_nb0185_01 ∧ Mine.hd.heap_39 = Mine.hd.heap_39) → True := by k_fill; intro _; trivial
section
variable {w : World} {mean : ExcName → Option Value} {mg mb : Str → Option Value} {g0 h1 : Heap} {L fa sc : Addr} {s : Shared} {Q : Flow → Shared → Prop} {E : Value → Shared → Prop}
  {nm qn : Str} {params : Arguments} {body : List Stmt} {scope : Scope} {dV kV doc pm ct oc : Value} {an od : Option Addr} {osl : Array (Option Value)}
theorem wdCLaw4a : True := by
  k_with_none
  k_with "execs cons" => (k_here; (try k_gentoks); (try dsimp only); refine Stop.mk' ?_)
  k_with "exec Assign cons ListComp" => (k_here; refine Stop.mk' ?_)
  k_with "CompSrcT" => (k_here; refine Stop.mk' ?_)
  trivial
theorem fold_filter (P : Int → Prop) [DecidablePred P] (ns : List Int) : ns.foldl (fun l k => if P k then l ++ [k] else l) [] = ns.filter (fun k => decide (P k)) := by
  have key : ∀ (ns acc : List Int), ns.foldl (fun l k => if P k then l ++ [k] else l) acc = acc ++ ns.filter (fun k => decide (P k)) := by
    intro ns
    induction ns with
    | nil => intro acc; simp
    | cons a r ih =>
      intro acc
      rw [List.foldl_cons, ih, List.filter_cons]
      by_cases h : P a
      · simp [h]
      · simp [h]
  simpa using key ns []
noncomputable abbrev findsOf (tab : List Int) (z n : Nat) : List Int := (rangeKs 0 ((n : Int) - z + 1).toNat).filter fun k => decide (tab.getD (2 * (z : Int) + k).toNat 0 = z)
theorem law_5 {o1 o2 o3 : Obj} {a D : Addr} {vs vsD : List Value} {n nD : Nat} {tab : List Int} {TX SO : Str} {tt tz tso tst : Tok} {st : Nat} (hb : LawFn w nm qn params body scope dV kV doc pm ct oc an od osl)
  (B : Below callerA g0 [] g0) (X : (Mine.hd.heap_39 w.params).In g0) (T : Top topProg looseX mean mg mb g0)
  (F : Fr g0 L h1 (fun y => if y = Str.ofString "sought" then some (.str SO tso) else if y = Str.ofString "start" then some (.int st tst) else if y = Str.ofString "numbers" then some (.ref a) else if y = Str.ofString "script" then some (.ref sc) else none))
  (N : News g0 L h1 [(D, lsO vsD nD), (a, lsO vs n), (L + 1 + 1 + 1, o3), (L + 1 + 1, o2), (L + 1, o1), (36, tabObj #[]), (103, tabObj #[])])
  (d3 : o3.data = .cell (some (.str TX tt))) (hTl : TX.length ≤ 20) (d1 : o1.data = .cell (some (.ref D))) (d2 : o2.data = .cell (some (.int SO.length tz))) (hs1 : 1 ≤ SO.length) (hs2 : SO.length ≤ 4) (ID : IntsAre vsD tab) (htl : tab.length = SO.length + 1 + TX.length)
  (next : ∀ fd vsF nF h' tk, IntsAre vsF (findsOf tab SO.length TX.length) → (∀ q ∈ [(D, lsO vsD nD), (a, lsO vs n), (L + 1 + 1 + 1, o3), (L + 1 + 1, o2), (L + 1, o1), (36, tabObj #[]), (103, tabObj #[])], @Ne Nat q.1 fd) →
    Fr g0 L h' (fun y => if y = Str.ofString "finds" then some (.ref fd) else if y = Str.ofString "sought" then some (.str SO tso) else if y = Str.ofString "start" then some (.int st tst) else if y = Str.ofString "numbers" then some (.ref a) else if y = Str.ofString "script" then some (.ref sc) else none) →
    News g0 L h' [(fd, lsO vsF nF), (D, lsO vsD nD), (a, lsO vs n), (L + 1 + 1 + 1, o3), (L + 1 + 1, o2), (L + 1, o1), (36, tabObj #[]), (103, tabObj #[])] →
    wpAny (model Challenge.rw_nb0185_01.row.prog w) (lawA nm scope L fa) (execs (body.drop 7) (envOfC nm scope L fa (.ref 105))) Q E { s with heap := h', toks := tk }) :
  wpAny (model Challenge.rw_nb0185_01.row.prog w) (lawA nm scope L fa) (execs (body.drop 6) (envOfC nm scope L fa (.ref 105))) Q E { s with heap := h1 } := by
  unfold LawFn at hb
  conv at hb => lhs; whnf
  cases hb
  dsimp only [List.drop] at next ⊢
  refine wpAny_execs_cons ?_
  (try k_fold)
  k_steps
  unfold Stop
  refine LCt.Assign_ListComp_T (F₀ := F) (by rfl) (by with_unfolding_all rfl) (by with_unfolding_all rfl) (by decide) (by rfl) (by decide) (by rfl) (by rfl) (by rfl) ?_
  (try k_fold)
  k_steps
  unfold Stop
  refine LCt.CompSrcT.range (n := ((TX.length : Int) - SO.length + 1).toNat) rfl (by assumption) (by assumption) (by assumption) (small_one (by omega) (by omega) (by omega) (by omega)) (by rw [rangeSize_one]; split <;> omega) (by rw [sl_eq]; omega) ?_
  intro g2
  refine kci_range (fun l k => if tab.getD (2 * (SO.length : Int) + k).toNat 0 = (SO.length : Int) then l ++ [k] else l) ?_ ?_ ?_
  · intro k t' I oI C oC D' m₂ ys l h2 tk2 E' hk1 hk2 hI' hC' hx' F2 N2 off2 ne2 mark2
    (try k_fold)
    k_steps
    · refine LCg.CompEnd.intro (by assumption) (by assumption) _ (fun p hp => hp) off2 trivial (kci_el (by rw [if_pos (by assumption)]) rfl rfl)
    · refine LCg.CompEnd.intro (by assumption) (by assumption) _ (fun p hp => hp) off2 trivial (kci_no (by rw [if_neg (by assumption)]) rfl)
  · unfold KPfDone
    intro ys hys hyl
    unfold LCg.FinA
    intro D3 h3 tk3 F3 N3 o3'
    rw [fold_filter (fun k => tab.getD (2 * (SO.length : Int) + k).toNat 0 = (SO.length : Int))] at hys
    simp only [LCg.Off1, and_true] at o3'
    refine next D3 ys _ h3 tk3 hys (fun q hq => ?_) F3 N3
    simp only [List.mem_cons, List.mem_nil_iff, or_false] at hq
    obtain ⟨q1, q2, q3, q4, q5, q6, q7⟩ := o3'
    rcases hq with rfl | rfl | rfl | rfl | rfl | rfl | rfl <;> assumption
  · intro l k
    dsimp only
    split <;> simp
end
end Mine
end
section -- CLaw5
theorem Mine.rstCLaw5 : True := by
  w_top off
  trivial
open PySem PySem.W PyProof.Rows PySem.Calls PySem.Builtin.Str PyProof
set_option Elab.async false
set_option maxRecDepth 100000
set_option maxHeartbeats 800000
set_option linter.unusedVariables false
namespace Mine
theorem fill10 : (PySem.Challenge.rw_nb0185_01 = PySem.Challenge.rw_nb0185_01 ∧ Mine.hd.heap_39 = Mine.hd.heap_39) → True := by k_fill; intro _; trivial
section
variable {w : World} {mean : ExcName → Option Value} {mg mb : Str → Option Value} {g0 h1 : Heap} {L fa sc : Addr} {s : Shared} {Q : Flow → Shared → Prop} {E : Value → Shared → Prop}
  {nm qn : Str} {params : Arguments} {body : List Stmt} {scope : Scope} {dV kV doc pm ct oc : Value} {an od : Option Addr} {osl : Array (Option Value)}
theorem wdCLaw5a : True := by
  k_with_none
  k_with "execs cons" => (k_here; (try k_gentoks); (try dsimp only); refine Stop.mk' ?_)
  k_with "exec Assign cons ListComp" => (k_here; refine Stop.mk' ?_)
  k_with "CompSrcT" => (k_here; refine Stop.mk' ?_)
  trivial
theorem rng_news {g h hq : Heap} {L r : Addr} {m : Str → Option Value} {x y z : Int} {t u v : Tok} {led : List (Addr × Obj)} (F : Fr g L hq m) (e : r = hq.objs.size) (hr : IsRange h r x y z t u v) (N : News g L h led) :
    ∃ o, (∀ h', h'.get? r = some o → IsRange h' r x y z t u v) ∧ News g L h ((r, o) :: led) :=
  ⟨_, fun _ q => q, fun q hq' => by
    rcases List.mem_cons.mp hq' with rfl | hq'
    · exact ⟨hr, by rw [e]; exact Nat.ne_of_gt F.ns.lt, by rw [e]; exact next_is_new F⟩
    · exact N q hq'⟩
noncomputable abbrev sufOf (TX : Str) (k : Int) : Str := Txt.slice TX (some k) none
theorem news_drop3 {g h : Heap} {L : Addr} {x y1 y2 y3 : Addr × Obj} {r : List (Addr × Obj)} (N : News g L h (x :: y1 :: y2 :: y3 :: r)) : News g L h (x :: r) := fun q hq => N q (by
  rcases List.mem_cons.mp hq with rfl | hq
  · exact .head _
  · exact .tail _ (.tail _ (.tail _ (.tail _ hq))))
noncomputable def RngMark : Prop := True
theorem wdCLaw5b : True := by
  k_with "eval Lambda" => (k_here; (fail_if_success (rename RngMark => rngM)); refine Stop.mk' ?_)
  k_with "call builtin:sorted" => (k_here; refine Stop.mk' ?_)
  trivial
theorem law_6 {o1 o2 o3 : Obj} {a D fd : Addr} {vs vsD vsF : List Value} {n nD nF : Nat} {tab finds : List Int} {TX SO : Str} {tt tz tso tst : Tok} {st : Nat} (hb : LawFn w nm qn params body scope dV kV doc pm ct oc an od osl)
  (B : Below callerA g0 [] g0) (X : (Mine.hd.heap_39 w.params).In g0) (T : Top topProg looseX mean mg mb g0) (C105 : CodeHd g0 105 103)
  (F : Fr g0 L h1 (fun y => if y = Str.ofString "finds" then some (.ref fd) else if y = Str.ofString "sought" then some (.str SO tso) else if y = Str.ofString "start" then some (.int st tst) else if y = Str.ofString "numbers" then some (.ref a) else if y = Str.ofString "script" then some (.ref sc) else none))
  (N : News g0 L h1 [(fd, lsO vsF nF), (D, lsO vsD nD), (a, lsO vs n), (L + 1 + 1 + 1, o3), (L + 1 + 1, o2), (L + 1, o1), (36, tabObj #[]), (103, tabObj #[])])
  (d3 : o3.data = .cell (some (.str TX tt))) (hTl : TX.length ≤ 20) (d1 : o1.data = .cell (some (.ref D))) (d2 : o2.data = .cell (some (.int SO.length tz))) (hs1 : 1 ≤ SO.length) (hs2 : SO.length ≤ 4) (hL1 : @LT.lt Nat _ 36 L) (hL2 : @LT.lt Nat _ 103 L) (e1 : @Ne Nat 103 fd) (e2 : @Ne Nat 103 D) (e3 : @Ne Nat 103 a)
  (next : ∀ Dp vsP nP pl c1 h' tk, IntsAre vsP pl → pl.Perm (rangeKs 0 TX.length) → pl.Pairwise (fun x y => ¬ (sufOf TX y).cps.toList < (sufOf TX x).cps.toList) →
    (∀ q ∈ [(fd, lsO vsF nF), (D, lsO vsD nD), (a, lsO vs n), (L + 1 + 1 + 1, o3), (L + 1 + 1, o2), (L + 1, o1), (36, tabObj #[]), (103, tabObj #[])], @LT.lt Nat _ q.1 Dp) →
    Fr g0 L h' (fun y => if y = Str.ofString "places" then some (.ref Dp) else if y = Str.ofString "finds" then some (.ref fd) else if y = Str.ofString "sought" then some (.str SO tso) else if y = Str.ofString "start" then some (.int st tst) else if y = Str.ofString "numbers" then some (.ref a) else if y = Str.ofString "script" then some (.ref sc) else none) →
    News g0 L h' [(Dp, lsO vsP nP), (fd, lsO vsF nF), (D, lsO vsD nD), (a, lsO vs n), (L + 1 + 1 + 1, o3), (L + 1 + 1, o2), (L + 1, o1), (36, tabObj #[]), (103, tabObj #[rawInt 128, rawInt 42, .ref c1])] →
    wpAny (model Challenge.rw_nb0185_01.row.prog w) (lawA nm scope L fa) (execs (body.drop 8) (envOfC nm scope L fa (.ref 105))) Q E { s with heap := h', toks := tk }) :
  wpAny (model Challenge.rw_nb0185_01.row.prog w) (lawA nm scope L fa) (execs (body.drop 7) (envOfC nm scope L fa (.ref 105))) Q E { s with heap := h1 } := by
  unfold LawFn at hb
  conv at hb => lhs; whnf
  cases hb
  dsimp only [List.drop] at next ⊢
  have hlt103 : @LT.lt Nat _ 103 h1.objs.size := Heap.lt_size (N (103, tabObj #[]) (by simp)).1
  have hltL : @LT.lt Nat _ L h1.objs.size := F.ns.lt
  refine wpAny_execs_cons ?_
  (try k_fold)
  k_steps
  unfold Stop
  rename IsRange _ _ _ _ _ _ _ _ => hR
  rename Fr g0 L h1 _ => F00
  rename Fr g0 L _ _ => F9
  rename News g0 L _ _ => N9
  have rM : RngMark := trivial
  obtain ⟨oR, hoR, N10⟩ := rng_news F00 rfl hR N9
  clear N9
  (try k_fold)
  k_steps
  unfold Stop
  rename Fr g0 L _ _ => F11
  rename News g0 L _ _ => N11
  have hR2 := hoR _ (N11 (_, oR) (by first | exact .tail _ (.tail _ (.head _)) | exact .tail _ (.head _))).1
  refine sorted_rng (kz := (rangeKs 0 TX.length).map (sufOf TX)) rfl F11 N11 hR2 (by omega) (by simp [rangeKs]) ?_ ?_
  · intro i t k hi hk h tk own F' N'
    have hk' : k = Txt.slice TX (some (i : Int)) none := by
      simp [rangeKs, hi, sufOf] at hk
      exact hk.symm
    clear hk
    subst hk'
    (try k_fold)
    k_steps
    exact ⟨_, _, _, rfl, rfl, by assumption, by assumption⟩
  · intro Dp hP tkP vsR out cP FP NP ltP IR oP
    obtain ⟨pl, Ipl, hperm, hpw⟩ := kst_ints IR oP
    have h103 : @LT.lt Nat _ 103 Dp := ltP (103, _) (by repeat (first | exact .head _ | apply List.Mem.tail))
    have e0 : @Ne Nat 103 Dp := Nat.ne_of_lt h103
    obtain ⟨vsP, rfl⟩ : ∃ vsP : List Value, out = vsP.toArray := ⟨out.toList, by simp⟩
    simp only [List.toList_toArray] at Ipl
    clear hR F9 hoR hR2 F11 N11 N10
    (try k_fold)
    k_steps
    unfold Stop
    rename News g0 L _ _ => N12
    refine next Dp vsP cP pl _ _ _ Ipl hperm hpw ?_ (by assumption) (news_drop3 N12)
    · intro q hq
      simp only [List.mem_cons, List.mem_nil_iff, or_false] at hq
      rcases hq with rfl | rfl | rfl | rfl | rfl | rfl | rfl | rfl
      · exact ltP _ (.tail _ (.tail _ (.tail _ (.head _))))
      · exact ltP _ (.tail _ (.tail _ (.tail _ (.tail _ (.head _)))))
      · exact ltP _ (.tail _ (.tail _ (.tail _ (.tail _ (.tail _ (.head _))))))
      · exact ltP _ (.tail _ (.tail _ (.tail _ (.tail _ (.tail _ (.tail _ (.head _)))))))
      · exact ltP _ (.tail _ (.tail _ (.tail _ (.tail _ (.tail _ (.tail _ (.tail _ (.head _))))))))
      · exact ltP _ (.tail _ (.tail _ (.tail _ (.tail _ (.tail _ (.tail _ (.tail _ (.tail _ (.head _)))))))))
      · exact ltP _ (.tail _ (.tail _ (.tail _ (.tail _ (.tail _ (.tail _ (.tail _ (.tail _ (.tail _ (.head _))))))))))
      · exact h103
end
end Mine
end
section -- CLaw6
theorem Mine.rstCLaw6 : True := by
  w_top off
  trivial
open PySem PySem.W PyProof.Rows PySem.Calls PySem.Builtin.Str PyProof
set_option Elab.async false
set_option maxRecDepth 100000
set_option maxHeartbeats 800000
set_option linter.unusedVariables false
namespace Mine
theorem fill11 : (PySem.Challenge.rw_nb0185_01 = PySem.Challenge.rw_nb0185_01 ∧ Mine.hd.heap_39 = Mine.hd.heap_39) → True := by k_fill; intro _; trivial
section
variable {w : World} {mean : ExcName → Option Value} {mg mb : Str → Option Value} {g0 h1 : Heap} {L fa sc : Addr} {s : Shared} {Q : Flow → Shared → Prop} {E : Value → Shared → Prop}
  {nm qn : Str} {params : Arguments} {body : List Stmt} {scope : Scope} {dV kV doc pm ct oc : Value} {an od : Option Addr} {osl : Array (Option Value)}
theorem wdCLaw6a : True := by
  k_with_none
  k_with "execs cons" => (k_here; (try k_gentoks); (try dsimp only); refine Stop.mk' ?_)
  k_with "exec While" => (k_here; refine Stop.mk' ?_)
  k_with "exec While Compare" => (k_here; refine Stop.mk' ?_)
  trivial
/-- the key's text at a place of the list -/
noncomputable def keyAt (TX SO : Str) (pl : List Int) (i : Nat) : List Nat := (Txt.slice TX (some (pl.getD i 0)) (some (pl.getD i 0 + SO.length))).cps.toList
noncomputable def bisM (f1 Dp : Addr) (SO : Str) (tso : Tok) (lo hi : Nat) (tl th : Tok) (mm : Option Value) (y : Str) : Option Value :=
  if y = Str.ofString "hi" then some (.int hi th) else if y = Str.ofString "lo" then some (.int lo tl) else if y = Str.ofString "mid" then mm else [(Str.ofString "key", Value.ref f1), (Str.ofString "x", .str SO tso), (Str.ofString "a", .ref Dp)].lookup y
theorem frW {g h : Heap} {L f1 Dp : Addr} {SO : Str} {tso tl th : Tok} {lo hi : Nat} (F : Fr g L h (fun y => if y = Str.ofString "hi" then some (.int (hi : Int) th) else [(Str.ofString "key", Value.ref f1), (Str.ofString "hi", Value.none), (Str.ofString "lo", .int lo tl), (Str.ofString "x", .str SO tso), (Str.ofString "a", .ref Dp)].lookup y)) :
    Fr g L h (bisM f1 Dp SO tso lo hi tl th none) := by
  have e : (fun y => if y = Str.ofString "hi" then some (.int (hi : Int) th) else [(Str.ofString "key", Value.ref f1), (Str.ofString "hi", Value.none), (Str.ofString "lo", .int lo tl), (Str.ofString "x", .str SO tso), (Str.ofString "a", .ref Dp)].lookup y) = bisM f1 Dp SO tso lo hi tl th none := by
    funext y
    unfold bisM
    by_cases h1 : y = Str.ofString "hi"
    · rw [if_pos h1, if_pos h1]
    · rw [if_neg h1, if_neg h1]
      by_cases h2 : y = Str.ofString "lo"
      · rw [if_pos h2, h2]; rfl
      · rw [if_neg h2]
        by_cases h3 : y = Str.ofString "mid"
        · rw [if_pos h3, h3]; rfl
        · rw [if_neg h3]
          have b1 : (y == Str.ofString "hi") = false := beq_eq_false_iff_ne.mpr h1
          have b2 : (y == Str.ofString "lo") = false := beq_eq_false_iff_ne.mpr h2
          simp only [List.lookup, b1, b2]
  rwa [e] at F
theorem mid_nat {lo hi : Nat} {P : Prop} (h : lo < hi) (k : ∀ mid : Nat, ((lo : Int) + hi).fdiv 2 = mid → lo ≤ mid → mid < hi → P) : P := by
  refine k ((lo + hi) / 2) ?_ (by omega) (by omega)
  rw [show ((lo : Int) + hi) = ((lo + hi : Nat) : Int) by omega, Int.fdiv_eq_ediv_of_nonneg _ (by decide)]
  rfl
theorem getD_mem {l : List Int} {i : Nat} (h : i < l.length) : l.getD i 0 ∈ l := by
  rw [List.getD_eq_getElem?_getD, List.getElem?_eq_getElem h]
  exact List.getElem_mem h
theorem frLo {g h : Heap} {L f1 Dp : Addr} {SO : Str} {tso tl th tl' : Tok} {lo hi mid : Nat} {mm mm' : Option Value} (F : Fr g L h (fun y => if y = Str.ofString "lo" then some (.int ((mid : Int) + 1) tl') else if y = Str.ofString "mid" then mm' else if y = Str.ofString "hi" then some (.int hi th) else if y = Str.ofString "lo" then some (.int lo tl) else if y = Str.ofString "mid" then mm else [(Str.ofString "key", Value.ref f1), (Str.ofString "x", .str SO tso), (Str.ofString "a", .ref Dp)].lookup y)) :
    Fr g L h (bisM f1 Dp SO tso (mid + 1) hi tl' th mm') := by
  refine fr_congr F fun y => ?_
  unfold bisM
  by_cases h1 : y = Str.ofString "hi"
  · subst h1; rfl
  · by_cases h2 : y = Str.ofString "lo"
    · subst h2; rfl
    · by_cases h3 : y = Str.ofString "mid"
      · subst h3; rfl
      · simp only [if_neg h1, if_neg h2, if_neg h3]
theorem frHi {g h : Heap} {L f1 Dp : Addr} {SO : Str} {tso tl th th' : Tok} {lo hi mid : Nat} {mm mm' : Option Value} (F : Fr g L h (fun y => if y = Str.ofString "hi" then some (.int (mid : Int) th') else if y = Str.ofString "mid" then mm' else if y = Str.ofString "hi" then some (.int hi th) else if y = Str.ofString "lo" then some (.int lo tl) else if y = Str.ofString "mid" then mm else [(Str.ofString "key", Value.ref f1), (Str.ofString "x", .str SO tso), (Str.ofString "a", .ref Dp)].lookup y)) :
    Fr g L h (bisM f1 Dp SO tso lo mid tl th' mm') := by
  refine fr_congr F fun y => ?_
  unfold bisM
  by_cases h1 : y = Str.ofString "hi"
  · subst h1; rfl
  · by_cases h2 : y = Str.ofString "lo"
    · subst h2; rfl
    · by_cases h3 : y = Str.ofString "mid"
      · subst h3; rfl
      · simp only [if_neg h1, if_neg h2, if_neg h3]
theorem news_drop2 {g h : Heap} {L : Addr} {y1 y2 : Addr × Obj} {r : List (Addr × Obj)} (N : News g L h (y1 :: y2 :: r)) : News g L h r := fun q hq => N q (.tail _ (.tail _ hq))
noncomputable def BisL (TX SO : Str) (pl : List Int) (f1 Dp : Addr) (tso : Tok) (n : Nat) (m : Str → Option Value) : Prop :=
  ∃ (lo hi : Nat) (mm : Option Value) (tl th : Tok), m = bisM f1 Dp SO tso lo hi tl th mm ∧ n = hi - lo ∧ lo ≤ hi ∧ hi ≤ pl.length ∧ (∀ i, i < lo → keyAt TX SO pl i < SO.cps.toList) ∧ (∀ i, hi ≤ i → i < pl.length → ¬ keyAt TX SO pl i < SO.cps.toList)
theorem BisL.elim {TX SO : Str} {pl : List Int} {f1 Dp : Addr} {tso : Tok} {n : Nat} {m : Str → Option Value} {P : Prop} (h : BisL TX SO pl f1 Dp tso n m)
    (k : ∀ (lo hi : Nat) (mm : Option Value) (tl th : Tok), m = bisM f1 Dp SO tso lo hi tl th mm → n = hi - lo → lo ≤ hi → hi ≤ pl.length → (∀ i, i < lo → keyAt TX SO pl i < SO.cps.toList) → (∀ i, hi ≤ i → i < pl.length → ¬ keyAt TX SO pl i < SO.cps.toList) → P) : P := by
  obtain ⟨lo, hi, mm, tl, th, h1, h2, h3, h4, h5, h6⟩ := h
  exact k lo hi mm tl th h1 h2 h3 h4 h5 h6
theorem law_7 {o1 o2 o3 : Obj} {a D fd Dp c1 : Addr} {vs vsD vsF vsP : List Value} {n nD nF nP : Nat} {pl : List Int} {TX SO : Str} {tt tz tso tst : Tok} {st : Nat} (hb : LawFn w nm qn params body scope dV kV doc pm ct oc an od osl)
  (B : Below callerA g0 [] g0) (X : (Mine.hd.heap_39 w.params).In g0) (T : Top topProg looseX mean mg mb g0) (C105 : CodeHd g0 105 103)
  (F : Fr g0 L h1 (fun y => if y = Str.ofString "places" then some (.ref Dp) else if y = Str.ofString "finds" then some (.ref fd) else if y = Str.ofString "sought" then some (.str SO tso) else if y = Str.ofString "start" then some (.int st tst) else if y = Str.ofString "numbers" then some (.ref a) else if y = Str.ofString "script" then some (.ref sc) else none))
  (N : News g0 L h1 [(Dp, lsO vsP nP), (fd, lsO vsF nF), (D, lsO vsD nD), (a, lsO vs n), (L + 1 + 1 + 1, o3), (L + 1 + 1, o2), (L + 1, o1), (36, tabObj #[]), (103, tabObj #[rawInt 128, rawInt 42, .ref c1])])
  (d3 : o3.data = .cell (some (.str TX tt))) (hTl : TX.length ≤ 20) (d2 : o2.data = .cell (some (.int SO.length tz))) (hs1 : 1 ≤ SO.length) (hs2 : SO.length ≤ 4) (hL1 : @LT.lt Nat _ 36 L) (hL2 : @LT.lt Nat _ 103 L) (e1 : @Ne Nat 103 fd) (e2 : @Ne Nat 103 D) (e3 : @Ne Nat 103 a) (e4 : @Ne Nat 103 Dp)
  (Ip : IntsAre vsP pl) (hpl : pl.length = TX.length) (hpr : ∀ k ∈ pl, 0 ≤ k ∧ k < TX.length) (hmono : ∀ i j, i ≤ j → j < pl.length → keyAt TX SO pl j < SO.cps.toList → keyAt TX SO pl i < SO.cps.toList)
  (next : ∀ (fi : Nat) tfi c2 h' tk, fi ≤ pl.length → (∀ i, i < fi → keyAt TX SO pl i < SO.cps.toList) → (∀ i, fi ≤ i → i < pl.length → ¬ keyAt TX SO pl i < SO.cps.toList) →
    Fr g0 L h' (fun y => if y = Str.ofString "first" then some (.int fi tfi) else if y = Str.ofString "places" then some (.ref Dp) else if y = Str.ofString "finds" then some (.ref fd) else if y = Str.ofString "sought" then some (.str SO tso) else if y = Str.ofString "start" then some (.int st tst) else if y = Str.ofString "numbers" then some (.ref a) else if y = Str.ofString "script" then some (.ref sc) else none) →
    News g0 L h' [(Dp, lsO vsP nP), (fd, lsO vsF nF), (D, lsO vsD nD), (a, lsO vs n), (L + 1 + 1 + 1, o3), (L + 1 + 1, o2), (L + 1, o1), (36, tabObj #[]), (103, tabObj #[rawInt 128, rawInt 42, .ref c1, rawInt 129, rawInt 44, .ref c2])] →
    wpAny (model Challenge.rw_nb0185_01.row.prog w) (lawA nm scope L fa) (execs (body.drop 9) (envOfC nm scope L fa (.ref 105))) Q E { s with heap := h', toks := tk }) :
  wpAny (model Challenge.rw_nb0185_01.row.prog w) (lawA nm scope L fa) (execs (body.drop 8) (envOfC nm scope L fa (.ref 105))) Q E { s with heap := h1 } := by
  unfold LawFn at hb
  conv at hb => lhs; whnf
  cases hb
  dsimp only [List.drop] at next ⊢
  refine wpAny_execs_cons ?_
  (try k_fold)
  k_steps
  unfold Stop
  rename Fr _ _ _ (fun y => List.lookup y _) => Fb
  rename Below (lawA _ _ _ _) _ _ _ => Bb
  rename_i f1 c2 oc1 vs1 t1 ct1 h2 tk2 F2 N2 dd1 dd2 l1 l2 gb Lb hb FG Nb Xb Tb
  obtain ⟨tlo, Fb⟩ : ∃ tlo, Fr gb Lb hb (fun y => [(Str.ofString "key", Value.ref f1), (Str.ofString "hi", Value.none), (Str.ofString "lo", .int 0 tlo), (Str.ofString "x", .str SO tso), (Str.ofString "a", .ref Dp)].lookup y) := ⟨_, Fb⟩
  clear F2 N2
  refine wpAny_execs_cons ?_
  (try k_fold)
  k_steps
  unfold Stop
  refine wpAny_execs_cons ?_
  (try k_fold)
  k_steps
  unfold Stop
  refine wpAny_execs_cons ?_
  (try k_fold)
  k_steps
  unfold Stop
  refine wpAny_execs_cons ?_
  (try k_fold)
  k_steps
  unfold Stop
  refine wpAny_execs_cons ?_
  (try k_fold)
  k_steps
  unfold Stop
  rename News gb Lb _ _ => N3
  obtain ⟨led, hled, N3⟩ := led_gen N3
  have F3 : Fr gb Lb _ _ := frW (lo := 0) (by assumption)
  refine while_led (BisL TX SO pl f1 Dp tso) pl.length ?_ F3 N3 ?_ ?_
  · passes_own
  · exact ⟨0, pl.length, none, _, _, rfl, by omega, by omega, by omega, fun i hi => absurd hi (by omega), fun i h1 h2 => absurd h1 (by omega)⟩
  · intro n1 h9 tk9 m9 hJ F9 N9
    refine hJ.elim ?_
    intro lo hi mm tl th hm9 hn1 hle hhi ha1 ha2
    rw [hm9] at F9
    clear hJ hm9
    unfold bisM at F9
    rw [hled] at N9
    clear N3 F3
    (try k_fold)
    k_steps
    by_cases hlt : (lo : Int) < hi
    · rw [decide_eq_true hlt]
      refine .on ?_
      refine wpAny_execs_cons ?_
      (try k_fold)
      k_steps
      unfold Stop
      refine mid_nat (lo := lo) (hi := hi) (by omega) ?_
      intro mid hm hm1 hm2
      rename Fr gb Lb _ (fun y => if y = Str.ofString "mid" then _ else _) => F10
      rw [hm] at F10
      have hkk := hpr (pl.getD mid 0) (getD_mem (by omega))
      have hmk : pl.getD ((mid : Int)).toNat 0 = pl.getD mid 0 := by rw [Int.toNat_natCast]
      refine wpAny_execs_cons ?_
      (try k_fold)
      k_steps
      · unfold Stop
        refine wpAny_execs_cons ?_
        (try k_fold)
        k_steps
        rename _ < SO.cps.toList => hc
        rw [hmk] at hc
        exact ⟨hi - (mid + 1), by omega, _, _, _, rfl, ⟨mid + 1, hi, _, _, _, rfl, rfl, by omega, by omega, fun i hi => hmono i mid (by omega) (by omega) hc, ha2⟩, frLo (by assumption), by rw [hled]; assumption⟩
      · unfold Stop
        refine wpAny_execs_cons ?_
        (try k_fold)
        k_steps
        rename ¬ _ < SO.cps.toList => hc
        rw [hmk] at hc
        exact ⟨mid - lo, by omega, _, _, _, rfl, ⟨lo, mid, _, _, _, rfl, rfl, by omega, by omega, ha1, fun i h1 h2 h3 => hc (hmono mid i h1 h2 h3)⟩, frHi (by assumption), by rw [hled]; assumption⟩
    · rw [decide_eq_false hlt]
      refine .off ?_
      (try k_fold)
      k_steps
      unfold Stop
      refine wpAny_execs_cons ?_
      (try k_fold)
      k_steps
      unfold Stop
      have ehl : hi = lo := by omega
      subst ehl
      exact next hi _ c2 _ _ hhi ha1 ha2 (by assumption) (news_drop2 (by assumption))
end
end Mine
end
section -- CLaw7
theorem Mine.rstCLaw7 : True := by
  w_top off
  trivial
open PySem PySem.W PyProof.Rows PySem.Calls PySem.Builtin.Str PyProof
set_option Elab.async false
set_option maxRecDepth 100000
set_option maxHeartbeats 800000
set_option linter.unusedVariables false
namespace Mine
theorem fill12 : (PySem.Challenge.rw_nb0185_01 = PySem.Challenge.rw_nb0185_01 ∧ Mine.hd.heap_39 = Mine.hd.heap_39) → True := by k_fill; intro _; trivial
section
variable {w : World} {mean : ExcName → Option Value} {mg mb : Str → Option Value} {g0 h1 : Heap} {L fa sc : Addr} {s : Shared} {Q : Flow → Shared → Prop} {E : Value → Shared → Prop}
  {nm qn : Str} {params : Arguments} {body : List Stmt} {scope : Scope} {dV kV doc pm ct oc : Value} {an od : Option Addr} {osl : Array (Option Value)}
theorem wdCLaw7a : True := by
  k_with_none
  k_with "execs cons" => (k_here; (try k_gentoks); (try dsimp only); refine Stop.mk' ?_)
  k_with "exec While" => (k_here; refine Stop.mk' ?_)
  k_with "exec While Compare" => (k_here; refine Stop.mk' ?_)
  trivial
noncomputable def BisR (TX SO : Str) (pl : List Int) (f1 Dp : Addr) (tso : Tok) (n : Nat) (m : Str → Option Value) : Prop :=
  ∃ (lo hi : Nat) (mm : Option Value) (tl th : Tok), m = bisM f1 Dp SO tso lo hi tl th mm ∧ n = hi - lo ∧ lo ≤ hi ∧ hi ≤ pl.length ∧ (∀ i, i < lo → ¬ SO.cps.toList < keyAt TX SO pl i) ∧ (∀ i, hi ≤ i → i < pl.length → SO.cps.toList < keyAt TX SO pl i)
theorem BisR.elim {TX SO : Str} {pl : List Int} {f1 Dp : Addr} {tso : Tok} {n : Nat} {m : Str → Option Value} {P : Prop} (h : BisR TX SO pl f1 Dp tso n m)
    (k : ∀ (lo hi : Nat) (mm : Option Value) (tl th : Tok), m = bisM f1 Dp SO tso lo hi tl th mm → n = hi - lo → lo ≤ hi → hi ≤ pl.length → (∀ i, i < lo → ¬ SO.cps.toList < keyAt TX SO pl i) → (∀ i, hi ≤ i → i < pl.length → SO.cps.toList < keyAt TX SO pl i) → P) : P := by
  obtain ⟨lo, hi, mm, tl, th, h1, h2, h3, h4, h5, h6⟩ := h
  exact k lo hi mm tl th h1 h2 h3 h4 h5 h6
theorem law_8 {o1 o2 o3 : Obj} {a D fd Dp c1 c3 : Addr} {vs vsD vsF vsP : List Value} {n nD nF nP : Nat} {pl : List Int} {TX SO : Str} {tt tz tso tst tfi : Tok} {st fi : Nat} (hb : LawFn w nm qn params body scope dV kV doc pm ct oc an od osl)
  (B : Below callerA g0 [] g0) (X : (Mine.hd.heap_39 w.params).In g0) (T : Top topProg looseX mean mg mb g0) (C105 : CodeHd g0 105 103)
  (F : Fr g0 L h1 (fun y => if y = Str.ofString "first" then some (.int fi tfi) else if y = Str.ofString "places" then some (.ref Dp) else if y = Str.ofString "finds" then some (.ref fd) else if y = Str.ofString "sought" then some (.str SO tso) else if y = Str.ofString "start" then some (.int st tst) else if y = Str.ofString "numbers" then some (.ref a) else if y = Str.ofString "script" then some (.ref sc) else none))
  (N : News g0 L h1 [(Dp, lsO vsP nP), (fd, lsO vsF nF), (D, lsO vsD nD), (a, lsO vs n), (L + 1 + 1 + 1, o3), (L + 1 + 1, o2), (L + 1, o1), (36, tabObj #[]), (103, tabObj #[rawInt 128, rawInt 42, .ref c1, rawInt 129, rawInt 44, .ref c3])])
  (d3 : o3.data = .cell (some (.str TX tt))) (hTl : TX.length ≤ 20) (d2 : o2.data = .cell (some (.int SO.length tz))) (hs1 : 1 ≤ SO.length) (hs2 : SO.length ≤ 4) (hL1 : @LT.lt Nat _ 36 L) (hL2 : @LT.lt Nat _ 103 L) (e1 : @Ne Nat 103 fd) (e2 : @Ne Nat 103 D) (e3 : @Ne Nat 103 a) (e4 : @Ne Nat 103 Dp)
  (Ip : IntsAre vsP pl) (hpl : pl.length = TX.length) (hpr : ∀ k ∈ pl, 0 ≤ k ∧ k < TX.length) (hmono : ∀ i j, i ≤ j → j < pl.length → SO.cps.toList < keyAt TX SO pl i → SO.cps.toList < keyAt TX SO pl j)
  (next : ∀ (be : Nat) tbe c2 h' tk, be ≤ pl.length → (∀ i, i < be → ¬ SO.cps.toList < keyAt TX SO pl i) → (∀ i, be ≤ i → i < pl.length → SO.cps.toList < keyAt TX SO pl i) →
    Fr g0 L h' (fun y => if y = Str.ofString "behind" then some (.int be tbe) else if y = Str.ofString "first" then some (.int fi tfi) else if y = Str.ofString "places" then some (.ref Dp) else if y = Str.ofString "finds" then some (.ref fd) else if y = Str.ofString "sought" then some (.str SO tso) else if y = Str.ofString "start" then some (.int st tst) else if y = Str.ofString "numbers" then some (.ref a) else if y = Str.ofString "script" then some (.ref sc) else none) →
    News g0 L h' [(Dp, lsO vsP nP), (fd, lsO vsF nF), (D, lsO vsD nD), (a, lsO vs n), (L + 1 + 1 + 1, o3), (L + 1 + 1, o2), (L + 1, o1), (36, tabObj #[]), (103, tabObj #[rawInt 128, rawInt 42, .ref c1, rawInt 129, rawInt 44, .ref c3, rawInt 130, rawInt 46, .ref c2])] →
    wpAny (model Challenge.rw_nb0185_01.row.prog w) (lawA nm scope L fa) (execs (body.drop 10) (envOfC nm scope L fa (.ref 105))) Q E { s with heap := h', toks := tk }) :
  wpAny (model Challenge.rw_nb0185_01.row.prog w) (lawA nm scope L fa) (execs (body.drop 9) (envOfC nm scope L fa (.ref 105))) Q E { s with heap := h1 } := by
  unfold LawFn at hb
  conv at hb => lhs; whnf
  cases hb
  dsimp only [List.drop] at next ⊢
  refine wpAny_execs_cons ?_
  (try k_fold)
  k_steps
  unfold Stop
  rename Fr _ _ _ (fun y => List.lookup y _) => Fb
  rename Below (lawA _ _ _ _) _ _ _ => Bb
  rename_i f1 c2 oc1 vs1 t1 ct1 h2 tk2 F2 N2 dd1 dd2 l1 l2 gb Lb hb FG Nb Xb Tb
  obtain ⟨tlo, Fb⟩ : ∃ tlo, Fr gb Lb hb (fun y => [(Str.ofString "key", Value.ref f1), (Str.ofString "hi", Value.none), (Str.ofString "lo", .int 0 tlo), (Str.ofString "x", .str SO tso), (Str.ofString "a", .ref Dp)].lookup y) := ⟨_, Fb⟩
  clear F2 N2
  refine wpAny_execs_cons ?_
  (try k_fold)
  k_steps
  unfold Stop
  refine wpAny_execs_cons ?_
  (try k_fold)
  k_steps
  unfold Stop
  refine wpAny_execs_cons ?_
  (try k_fold)
  k_steps
  unfold Stop
  refine wpAny_execs_cons ?_
  (try k_fold)
  k_steps
  unfold Stop
  refine wpAny_execs_cons ?_
  (try k_fold)
  k_steps
  unfold Stop
  rename News gb Lb _ _ => N3
  obtain ⟨led, hled, N3⟩ := led_gen N3
  have F3 : Fr gb Lb _ _ := frW (lo := 0) (by assumption)
  refine while_led (BisR TX SO pl f1 Dp tso) pl.length ?_ F3 N3 ?_ ?_
  · passes_own
  · exact ⟨0, pl.length, none, _, _, rfl, by omega, by omega, by omega, fun i hi => absurd hi (by omega), fun i h1 h2 => absurd h1 (by omega)⟩
  · intro n1 h9 tk9 m9 hJ F9 N9
    refine hJ.elim ?_
    intro lo hi mm tl th hm9 hn1 hle hhi ha1 ha2
    rw [hm9] at F9
    clear hJ hm9
    unfold bisM at F9
    rw [hled] at N9
    clear N3 F3
    (try k_fold)
    k_steps
    by_cases hlt : (lo : Int) < hi
    · rw [decide_eq_true hlt]
      refine .on ?_
      refine wpAny_execs_cons ?_
      (try k_fold)
      k_steps
      unfold Stop
      refine mid_nat (lo := lo) (hi := hi) (by omega) ?_
      intro mid hm hm1 hm2
      rename Fr gb Lb _ (fun y => if y = Str.ofString "mid" then _ else _) => F10
      rw [hm] at F10
      have hkk := hpr (pl.getD mid 0) (getD_mem (by omega))
      have hmk : pl.getD ((mid : Int)).toNat 0 = pl.getD mid 0 := by rw [Int.toNat_natCast]
      refine wpAny_execs_cons ?_
      (try k_fold)
      k_steps
      · unfold Stop
        refine wpAny_execs_cons ?_
        (try k_fold)
        k_steps
        rename SO.cps.toList < _ => hc
        rw [hmk] at hc
        exact ⟨mid - lo, by omega, _, _, _, rfl, ⟨lo, mid, _, _, _, rfl, rfl, by omega, by omega, ha1, fun i h1 h2 => hmono mid i h1 h2 hc⟩, frHi (by assumption), by rw [hled]; assumption⟩
      · unfold Stop
        refine wpAny_execs_cons ?_
        (try k_fold)
        k_steps
        rename ¬ SO.cps.toList < _ => hc
        rw [hmk] at hc
        exact ⟨hi - (mid + 1), by omega, _, _, _, rfl, ⟨mid + 1, hi, _, _, _, rfl, rfl, by omega, by omega, fun i hi h3 => hc (hmono i mid (by omega) (by omega) h3), ha2⟩, frLo (by assumption), by rw [hled]; assumption⟩
    · rw [decide_eq_false hlt]
      refine .off ?_
      (try k_fold)
      k_steps
      unfold Stop
      refine wpAny_execs_cons ?_
      (try k_fold)
      k_steps
      unfold Stop
      have ehl : hi = lo := by omega
      subst ehl
      exact next hi _ c2 _ _ hhi ha1 ha2 (by assumption) (news_drop2 (by assumption))
end
end Mine
end
section -- CLaw8
theorem Mine.rstCLaw8 : True := by
  w_top off
  trivial
open PySem PySem.W PyProof.Rows PySem.Calls PySem.Builtin.Str PyProof
set_option Elab.async false
set_option maxRecDepth 100000
set_option maxHeartbeats 800000
set_option linter.unusedVariables false
namespace Mine
theorem fill13 : (PySem.Challenge.rw_nb0185_01 = PySem.Challenge.rw_nb0185_01 ∧ Mine.hd.heap_39 = Mine.hd.heap_39) → True := by k_fill; intro _; trivial
section
variable {w : World} {mean : ExcName → Option Value} {mg mb : Str → Option Value} {g0 h1 : Heap} {L fa sc : Addr} {s : Shared} {Q : Flow → Shared → Prop} {E : Value → Shared → Prop}
  {nm qn : Str} {params : Arguments} {body : List Stmt} {scope : Scope} {dV kV doc pm ct oc : Value} {an od : Option Addr} {osl : Array (Option Value)}
theorem wdCLaw8a : True := by
  k_with_none
  k_with "execs cons" => (k_here; (try k_gentoks); (try dsimp only); refine Stop.mk' ?_)
  k_with "compareOp NotEq ref ref" => (k_here; refine Stop.mk' ?_)
  trivial
theorem law_9 {o1 o2 o3 : Obj} {a D fd Dp : Addr} {vs vsD vsF vsP : List Value} {n nD nF nP : Nat} {pl finds : List Int} {TX SO : Str} {tt tz tso tst tfi tbe : Tok} {st fi be : Nat} {qs : Array Value} (hb : LawFn w nm qn params body scope dV kV doc pm ct oc an od osl)
  (B : Below callerA g0 [] g0) (X : (Mine.hd.heap_39 w.params).In g0) (T : Top topProg looseX mean mg mb g0)
  (F : Fr g0 L h1 (fun y => if y = Str.ofString "behind" then some (.int be tbe) else if y = Str.ofString "first" then some (.int fi tfi) else if y = Str.ofString "places" then some (.ref Dp) else if y = Str.ofString "finds" then some (.ref fd) else if y = Str.ofString "sought" then some (.str SO tso) else if y = Str.ofString "start" then some (.int st tst) else if y = Str.ofString "numbers" then some (.ref a) else if y = Str.ofString "script" then some (.ref sc) else none))
  (N : News g0 L h1 [(Dp, lsO vsP nP), (fd, lsO vsF nF), (D, lsO vsD nD), (a, lsO vs n), (L + 1 + 1 + 1, o3), (L + 1 + 1, o2), (L + 1, o1), (36, tabObj #[]), (103, tabObj qs)])
  (d3 : o3.data = .cell (some (.str TX tt))) (hTl : TX.length ≤ 20) 
  (Ip : IntsAre vsP pl) (hpl : pl.length = TX.length) (If : IntsAre vsF finds) (hfi : fi ≤ pl.length) (hbe : be ≤ pl.length) (hseg : ∀ ms : List Int, ms.Perm ((pl.drop fi).take (be - fi)) → ms.Pairwise (· ≤ ·) → ms = finds)
  (next : ∀ h' tk, Fr g0 L h' (fun y => if y = Str.ofString "behind" then some (.int be tbe) else if y = Str.ofString "first" then some (.int fi tfi) else if y = Str.ofString "places" then some (.ref Dp) else if y = Str.ofString "finds" then some (.ref fd) else if y = Str.ofString "sought" then some (.str SO tso) else if y = Str.ofString "start" then some (.int st tst) else if y = Str.ofString "numbers" then some (.ref a) else if y = Str.ofString "script" then some (.ref sc) else none) →
    News g0 L h' [(fd, lsO vsF nF), (D, lsO vsD nD), (a, lsO vs n), (L + 1 + 1 + 1, o3), (L + 1 + 1, o2), (L + 1, o1), (36, tabObj #[]), (103, tabObj qs)] →
    wpAny (model Challenge.rw_nb0185_01.row.prog w) (lawA nm scope L fa) (execs (body.drop 11) (envOfC nm scope L fa (.ref 105))) Q E { s with heap := h', toks := tk }) :
  wpAny (model Challenge.rw_nb0185_01.row.prog w) (lawA nm scope L fa) (execs (body.drop 10) (envOfC nm scope L fa (.ref 105))) Q E { s with heap := h1 } := by
  unfold LawFn at hb
  conv at hb => lhs; whnf
  cases hb
  dsimp only [List.drop] at next ⊢
  refine wpAny_execs_cons ?_
  (try k_fold)
  k_steps
  unfold Stop
  rename List.Perm _ _ => hP
  rename List.Pairwise _ _ => hO
  rename News g0 L _ ((_, W.listOf _ _) :: (_, W.listOf _ 0) :: _) => N2
  have heq := hseg _ (by simpa only [Int.toNat_natCast, Nat.min_eq_left hbe] using hP) hO
  rename IntsAre _ (_ : List Int) => i2
  refine ne_led N2 (.head _) (.tail _ (.tail _ (.tail _ (.head _)))) i2 If (by k_units) ?_
  rw [decide_eq_true heq]
  (try k_fold)
  k_steps
  unfold Stop
  exact next _ _ (by assumption) (fun q hq => N2 q (.tail _ (.tail _ (.tail _ hq))))
end
end Mine
end
section -- CLaw9
theorem Mine.rstCLaw9 : True := by
  w_top off
  trivial
open PySem PySem.W PyProof.Rows PySem.Calls PySem.Builtin.Str PyProof
set_option Elab.async false
set_option maxRecDepth 100000
set_option maxHeartbeats 800000
set_option linter.unusedVariables false
namespace Mine
theorem fill14 : (PySem.Challenge.rw_nb0185_01 = PySem.Challenge.rw_nb0185_01 ∧ Mine.hd.heap_39 = Mine.hd.heap_39) → True := by k_fill; intro _; trivial
section
variable {w : World} {mean : ExcName → Option Value} {mg mb : Str → Option Value} {g0 h1 : Heap} {L fa sc : Addr} {s : Shared} {Q : Flow → Shared → Prop} {E : Value → Shared → Prop}
  {nm qn : Str} {params : Arguments} {body : List Stmt} {scope : Scope} {dV kV doc pm ct oc : Value} {an od : Option Addr} {osl : Array (Option Value)}
/-- the frame's map: the names that are still asked -/
noncomputable def lawM (fd sc : Addr) (SO : Str) (tso : Tok) (M : Str → Option Value) (y : Str) : Option Value :=
  if y = Str.ofString "finds" then some (.ref fd) else if y = Str.ofString "sought" then some (.str SO tso) else if y = Str.ofString "script" then some (.ref sc) else M y
theorem ints_snoc {i : Int} {t : Tok} : ∀ {vs : List Value} {ns : List Int}, IntsAre vs ns → IntsAre (vs ++ [.int i t]) (ns ++ [i])
  | _, _, .nil => .cons i t .nil
  | _, _, .cons n' t' h => .cons n' t' (ints_snoc h)
theorem frLap {g h : Heap} {L fd sc Dl : Addr} {SO : Str} {tso : Tok} {v : Option Value} {M : Str → Option Value} (F : Fr g L h (fun y => if y = Str.ofString "lap" then v else if y = Str.ofString "laps" then some (.ref Dl) else lawM fd sc SO tso M y)) :
    Fr g L h (fun y => if y = Str.ofString "laps" then some (.ref Dl) else lawM fd sc SO tso (fun y => if y = Str.ofString "lap" then v else M y) y) := by
  refine fr_congr F fun y => ?_
  unfold lawM
  by_cases h1 : y = Str.ofString "lap"
  · subst h1; rfl
  · simp only [if_neg h1]
theorem wdCLaw9a : True := by
  k_with_none
  k_with "execs cons" => (k_here; (try k_gentoks); (try dsimp only); refine Stop.mk' ?_)
  k_with "exec While" => (k_here; refine Stop.mk' ?_)
  k_with "exec While Compare" => (k_here; refine Stop.mk' ?_)
  trivial
noncomputable def LapJ (g : Heap) (L : Addr) (s : Shared) (SO : Str) (fd sc Dl : Addr) (tso : Tok) (M : Str → Option Value) (led : List (Addr × Obj)) (nn : Nat) (s' : Shared) : Prop :=
  ∃ (lap : Nat) (tl : Tok) (h9 : Heap) (tk9 : Nat) (vsL : List Value) (nL : Nat) (laps : List Int), s' = { s with heap := h9, toks := tk9 } ∧ nn = lap ∧ bdr (fun j => ch SO j) (SO.length - 1) lap ∧ (∀ b, bdr (fun j => ch SO j) (SO.length - 1) b → lap < b → (b : Int) ∈ laps) ∧ IntsAre vsL laps ∧ laps.length + lap ≤ 4 ∧
    Fr g L h9 (fun y => if y = Str.ofString "lap" then some (.int lap tl) else if y = Str.ofString "laps" then some (.ref Dl) else lawM fd sc SO tso M y) ∧ News g L h9 ((Dl, lsO vsL nL) :: led)
theorem LapJ.elim {g : Heap} {L : Addr} {s s' : Shared} {SO : Str} {fd sc Dl : Addr} {tso : Tok} {M : Str → Option Value} {led : List (Addr × Obj)} {nn : Nat} {P : Shared → Prop} (h : LapJ g L s SO fd sc Dl tso M led nn s')
    (k : ∀ (lap : Nat) (tl : Tok) (h9 : Heap) (tk9 : Nat) (vsL : List Value) (nL : Nat) (laps : List Int), nn = lap → bdr (fun j => ch SO j) (SO.length - 1) lap → (∀ b, bdr (fun j => ch SO j) (SO.length - 1) b → lap < b → (b : Int) ∈ laps) → IntsAre vsL laps → laps.length + lap ≤ 4 →
      Fr g L h9 (fun y => if y = Str.ofString "lap" then some (.int lap tl) else if y = Str.ofString "laps" then some (.ref Dl) else lawM fd sc SO tso M y) → News g L h9 ((Dl, lsO vsL nL) :: led) → P { s with heap := h9, toks := tk9 }) : P s' := by
  obtain ⟨lap, tl, h9, tk9, vsL, nL, laps, rfl, h1, h2, h3, h4, h5, h6, h7⟩ := h
  exact k lap tl h9 tk9 vsL nL laps h1 h2 h3 h4 h5 h6 h7
theorem LJ1.elim {g : Heap} {L : Addr} {s s' : Shared} {x : Str} {M : Str → Option Value} {led : List (Addr × Obj)} {ns : List Int} {P : Shared → Prop} (h : LJ1 g L s x M led ns s')
    (k : ∀ a vs n h tk, Fr g L h (fun y => if y = x then some (.ref a) else M y) → News g L h ((a, lsO vs n) :: led) → IntsAre vs ns → (∀ q ∈ led, @LT.lt Nat _ q.1 a) → P { s with heap := h, toks := tk }) : P s' := by
  obtain ⟨a, vs, n, h, tk, rfl, h1, h2, h3, h4⟩ := h
  exact k a vs n h tk h1 h2 h3 h4
theorem law_10 {o1 o2 o3 : Obj} {a D fd : Addr} {vs vsD vsF : List Value} {n nD nF : Nat} {tab finds : List Int} {TX SO : Str} {tt tz tso : Tok} {qs : Array Value} {M : Str → Option Value} (hb : LawFn w nm qn params body scope dV kV doc pm ct oc an od osl)
  (B : Below callerA g0 [] g0) (X : (Mine.hd.heap_39 w.params).In g0) (T : Top topProg looseX mean mg mb g0)
  (F : Fr g0 L h1 (lawM fd sc SO tso M))
  (N : News g0 L h1 [(fd, lsO vsF nF), (D, lsO vsD nD), (a, lsO vs n), (L + 1 + 1 + 1, o3), (L + 1 + 1, o2), (L + 1, o1), (36, tabObj #[]), (103, tabObj qs)])
  (d3 : o3.data = .cell (some (.str TX tt))) (hTl : TX.length ≤ 20) (d1 : o1.data = .cell (some (.ref D))) (d2 : o2.data = .cell (some (.int SO.length tz))) (hs1 : 1 ≤ SO.length) (hs2 : SO.length ≤ 4)
  (hE : PassesOwn (model Challenge.rw_nb0185_01.row.prog w) (lawA nm scope L fa) (envOfC nm scope L fa (.ref 105)) E) (ID : IntsAre vsD tab) (htl : tab.length = SO.length + 1 + TX.length) (htab : ∀ j, j < SO.length → tab.getD j 0 = (bd (fun j => ch SO j) j : Int))
  (next : ∀ Dl vsL nL laps M' h' tk, IntsAre vsL laps → laps.length ≤ 4 → (∀ b : Nat, 0 < b → bdr (fun j => ch SO j) (SO.length - 1) b → (b : Int) ∈ laps) →
    (∀ q ∈ [(fd, lsO vsF nF), (D, lsO vsD nD), (a, lsO vs n), (L + 1 + 1 + 1, o3), (L + 1 + 1, o2), (L + 1, o1), (36, tabObj #[]), (103, tabObj qs)], @LT.lt Nat _ q.1 Dl) →
    Fr g0 L h' (fun y => if y = Str.ofString "laps" then some (.ref Dl) else lawM fd sc SO tso M' y) →
    News g0 L h' [(Dl, lsO vsL nL), (fd, lsO vsF nF), (D, lsO vsD nD), (a, lsO vs n), (L + 1 + 1 + 1, o3), (L + 1 + 1, o2), (L + 1, o1), (36, tabObj #[]), (103, tabObj qs)] →
    wpAny (model Challenge.rw_nb0185_01.row.prog w) (lawA nm scope L fa) (execs (body.drop 14) (envOfC nm scope L fa (.ref 105))) Q E { s with heap := h', toks := tk }) :
  wpAny (model Challenge.rw_nb0185_01.row.prog w) (lawA nm scope L fa) (execs (body.drop 11) (envOfC nm scope L fa (.ref 105))) Q E { s with heap := h1 } := by
  unfold LawFn at hb
  conv at hb => lhs; whnf
  cases hb
  dsimp only [List.drop] at next ⊢
  refine join_at (LJ1 g0 L s (Str.ofString "laps") (lawM fd sc SO tso M) [(fd, lsO vsF nF), (D, lsO vsD nD), (a, lsO vs n), (L + 1 + 1 + 1, o3), (L + 1 + 1, o2), (L + 1, o1), (36, tabObj #[]), (103, tabObj qs)] []) ?_ ?_
  · unfold lawM at F
    (try k_fold)
    k_steps
    rename News _ _ _ _ => N'
    refine ⟨_, [], _, _, _, rfl, by assumption, N', .nil, fun q hq => ?_⟩
    rename _ < _ ∧ _ => hlt
    simp only [List.mem_cons, List.mem_nil_iff, or_false] at hq
    obtain ⟨q1, q2, q3, q4, q5, q6, q7, q8⟩ := hlt
    rcases hq with rfl | rfl | rfl | rfl | rfl | rfl | rfl | rfl <;> assumption
  clear F N
  intro s2 hJ
  refine hJ.elim ?_
  intro Dl vsL0 nL0 h2 tk2 F N IL0 ltl
  clear hJ
  have hl1 : @LT.lt Nat _ fd Dl := ltl (fd, _) (.head _)
  have hl2 : @LT.lt Nat _ D Dl := ltl (D, _) (.tail _ (.head _))
  have hl3 : @LT.lt Nat _ a Dl := ltl (a, _) (.tail _ (.tail _ (.head _)))
  have hl4 : @LT.lt Nat _ (L + 1 + 1 + 1) Dl := ltl (L + 1 + 1 + 1, _) (.tail _ (.tail _ (.tail _ (.head _))))
  have hl5 : @LT.lt Nat _ 36 Dl := ltl (36, tabObj #[]) (.tail _ (.tail _ (.tail _ (.tail _ (.tail _ (.tail _ (.head _)))))))
  have hl6 : @LT.lt Nat _ 103 Dl := ltl (103, tabObj qs) (.tail _ (.tail _ (.tail _ (.tail _ (.tail _ (.tail _ (.tail _ (.head _))))))))
  unfold lawM at F
  refine wpAny_execs_cons ?_
  (try k_fold)
  k_steps
  unfold Stop
  refine wpAny_execs_cons ?_
  (try k_fold)
  k_steps
  unfold Stop
  rename Fr g0 L _ (fun y => if y = Str.ofString "lap" then _ else _) => F2
  rename News g0 L _ _ => N2
  have hz0 : tab.getD ((SO.length : Int) - 1).toNat 0 = (bd (fun j => ch SO j) (SO.length - 1) : Int) := by
    rw [show ((SO.length : Int) - 1).toNat = SO.length - 1 by omega]
    exact htab _ (by omega)
  rw [hz0] at F2
  have hb0 := bd_is (fun j => ch SO j) (SO.length - 1)
  have hb1 : ∀ b, bdr (fun j => ch SO j) (SO.length - 1) b → bd (fun j => ch SO j) (SO.length - 1) < b → (b : Int) ∈ ([] : List Int) := fun b h1 h2 => absurd (bd_max h1) (Nat.not_le_of_lt h2)
  have hb2 := bd_le (fun j => ch SO j) (SO.length - 1)
  generalize hlap0 : bd (fun j => ch SO j) (SO.length - 1) = lap0 at F2 hb0 hb1 hb2
  obtain ⟨led, hled⟩ : ∃ led, led = [(fd, lsO vsF nF), (D, lsO vsD nD), (a, lsO vs n), (L + 1 + 1 + 1, o3), (L + 1 + 1, o2), (L + 1, o1), (36, tabObj #[]), (103, tabObj qs)] := ⟨_, rfl⟩
  refine while_at (LapJ g0 L s SO fd sc Dl tso M led) hE ?_ lap0 ?_
  · intro n1 s4 hJ
    refine hJ.elim ?_
    intro lap tl h9 tk9 vsL nL laps hn1 hbl hall IL hll F9 N9
    clear hJ
    unfold lawM at F9
    rw [hled] at N9
    have hlap : lap ≤ SO.length - 1 := bdr_le hbl
    clear F2 N2
    (try k_fold)
    k_steps
    by_cases hlt : (lap : Int) > 0
    · rw [decide_eq_true hlt]
      refine .on ?_
      refine wpAny_execs_cons ?_
      (try k_fold)
      k_steps
      unfold Stop
      refine wpAny_execs_cons ?_
      (try k_fold)
      k_steps
      rename Fr g0 L _ (fun y => if y = Str.ofString "lap" then _ else if y = Str.ofString "lap" then _ else _) => F10
      rename News g0 L _ ((Dl, W.listOf (Array.push _ _) _) :: _) => N10
      have hz9 : tab.getD ((lap : Int) - 1).toNat 0 = (bd (fun j => ch SO j) (lap - 1) : Int) := by
        rw [show ((lap : Int) - 1).toNat = lap - 1 by omega]
        exact htab _ (by omega)
      rw [hz9] at F10
      have hbl9 := bd_le (fun j => ch SO j) (lap - 1)
      simp only [List.push_toArray] at N10
      refine ⟨bd (fun j => ch SO j) (lap - 1), by omega, bd (fun j => ch SO j) (lap - 1), _, _, _, _, _, laps ++ [(lap : Int)], rfl, rfl, bdr_trans hbl (by omega) (bd_is _ _), fun b h1 h2 => ?_, ints_snoc IL, by rw [List.length_append, List.length_singleton]; omega, fr_twice' F10, by rw [hled]; exact N10⟩
      rw [List.mem_append, List.mem_singleton]
      rcases Nat.lt_trichotomy b lap with h | h | h
      · exact absurd (bd_max (bdr_less hbl h1 h)) (Nat.not_le_of_lt h2)
      · exact .inr (by rw [h])
      · exact .inl (hall b h1 h)
    · rw [decide_eq_false hlt]
      refine .off ?_
      (try k_fold)
      k_steps
      unfold Stop
      have hlz : lap = 0 := by omega
      subst hlz
      exact next Dl vsL nL laps (fun y => if y = Str.ofString "lap" then some (.int ((0 : Nat) : Int) tl) else M y) _ _ IL (by omega) (fun b h1 h2 => hall b h2 h1) ltl (frLap F9) N9
  · exact ⟨lap0, _, _, _, _, _, [], rfl, rfl, hb0, hb1, IL0, by simp; omega, F2, by rw [hled]; exact N2⟩
end
end Mine
end
section -- CLaw10
theorem Mine.rstCLaw10 : True := by
  w_top off
  trivial
open PySem PySem.W PyProof.Rows PySem.Calls PySem.Builtin.Str PyProof
set_option Elab.async false
set_option maxRecDepth 100000
set_option maxHeartbeats 800000
set_option linter.unusedVariables false
namespace Mine
theorem fill15 : (PySem.Challenge.rw_nb0185_01 = PySem.Challenge.rw_nb0185_01 ∧ Mine.hd.heap_39 = Mine.hd.heap_39) → True := by k_fill; intro _; trivial
section
variable {w : World} {mean : ExcName → Option Value} {mg mb : Str → Option Value} {g0 h1 : Heap} {L fa sc : Addr} {s : Shared} {Q : Flow → Shared → Prop} {E : Value → Shared → Prop}
  {nm qn : Str} {params : Arguments} {body : List Stmt} {scope : Scope} {dV kV doc pm ct oc : Value} {an od : Option Addr} {osl : Array (Option Value)}
theorem wdCLaw10a : True := by
  k_with_none
  k_with "execs cons" => (k_here; (try k_gentoks); (try dsimp only); refine Stop.mk' ?_)
  k_with "pyIter ref" => (k_here; refine Stop.mk' ?_)
  k_with "compareOp NotIn int ref" => (k_here; refine Stop.mk' ?_)
  trivial
theorem frLoop {g h : Heap} {L fd sc Dl : Addr} {SO : Str} {tso : Tok} {u v : Option Value} {M : Str → Option Value} (F : Fr g L h (fun y => if y = Str.ofString "k" then u else if y = Str.ofString "shared" then v else if y = Str.ofString "laps" then some (.ref Dl) else lawM fd sc SO tso M y)) :
    Fr g L h (lawM fd sc SO tso (fun y => if y = Str.ofString "k" then u else if y = Str.ofString "shared" then v else if y = Str.ofString "laps" then some (.ref Dl) else M y)) := by
  refine fr_congr F fun y => ?_
  unfold lawM
  by_cases h1 : y = Str.ofString "k"
  · subst h1; rfl
  · by_cases h2 : y = Str.ofString "shared"
    · subst h2; rfl
    · by_cases h3 : y = Str.ofString "laps"
      · subst h3; rfl
      · simp only [if_neg h1, if_neg h2, if_neg h3]
noncomputable def lapM (Dl fd sc : Addr) (SO : Str) (tso : Tok) (M : Str → Option Value) (y : Str) : Option Value := if y = Str.ofString "laps" then some (.ref Dl) else lawM fd sc SO tso M y
noncomputable def FndJ (led : List (Addr × Obj)) (M : Str → Option Value) (m₁ : Str → Option Value) (nx : List (Addr × Obj)) : Prop := nx = led ∧ ∀ y, y ≠ Str.ofString "k" → y ≠ Str.ofString "shared" → m₁ y = M y
theorem law_11 {o1 o2 o3 : Obj} {a D fd Dl : Addr} {vs vsD vsF vsL : List Value} {n nD nF nL : Nat} {finds laps : List Int} {TX SO : Str} {tt tz tso : Tok} {qs : Array Value} {M : Str → Option Value} (hb : LawFn w nm qn params body scope dV kV doc pm ct oc an od osl)
  (B : Below callerA g0 [] g0) (X : (Mine.hd.heap_39 w.params).In g0) (T : Top topProg looseX mean mg mb g0)
  (F : Fr g0 L h1 (fun y => if y = Str.ofString "laps" then some (.ref Dl) else lawM fd sc SO tso M y))
  (N : News g0 L h1 [(Dl, lsO vsL nL), (fd, lsO vsF nF), (D, lsO vsD nD), (a, lsO vs n), (L + 1 + 1 + 1, o3), (L + 1 + 1, o2), (L + 1, o1), (36, tabObj #[]), (103, tabObj qs)])
  (d2 : o2.data = .cell (some (.int SO.length tz))) (hs1 : 1 ≤ SO.length) (hs2 : SO.length ≤ 4)
  (hE : PassesOwn (model Challenge.rw_nb0185_01.row.prog w) (lawA nm scope L fa) (envOfC nm scope L fa (.ref 105)) E) (IL : IntsAre vsL laps) (hll : laps.length ≤ 4) (If : IntsAre vsF finds) (hfl : finds.length ≤ 20) (hfb : ∀ k ∈ finds, 0 ≤ k ∧ k ≤ 20)
  (hsh : ∀ i : Nat, i + 1 < finds.length → 0 < (SO.length : Int) - (finds.getD (i + 1) 0 - finds.getD i 0) → (SO.length : Int) - (finds.getD (i + 1) 0 - finds.getD i 0) ∈ laps)
  (next : ∀ M' h' tk, Fr g0 L h' (lawM fd sc SO tso M') →
    News g0 L h' [(fd, lsO vsF nF), (D, lsO vsD nD), (a, lsO vs n), (L + 1 + 1 + 1, o3), (L + 1 + 1, o2), (L + 1, o1), (36, tabObj #[]), (103, tabObj qs)] →
    wpAny (model Challenge.rw_nb0185_01.row.prog w) (lawA nm scope L fa) (execs (body.drop 15) (envOfC nm scope L fa (.ref 105))) Q E { s with heap := h', toks := tk }) :
  wpAny (model Challenge.rw_nb0185_01.row.prog w) (lawA nm scope L fa) (execs (body.drop 14) (envOfC nm scope L fa (.ref 105))) Q E { s with heap := h1 } := by
  unfold LawFn at hb
  conv at hb => lhs; whnf
  cases hb
  dsimp only [List.drop] at next ⊢
  refine wpAny_execs_cons ?_
  unfold lawM at F
  with_unfolding_all refine For_invVF F rfl rfl ?_ (fun _ => rfl) hE
  (try k_fold)
  k_steps
  unfold Stop
  rename Fr g0 L _ _ => F2
  rename News g0 L _ _ => N2
  rename IsRange _ _ _ _ _ _ _ _ => hR
  obtain ⟨led, hled, N2⟩ := led_gen N2
  refine iter_rangeG (n := finds.length - 1) (fun _ => FndJ led (lapM Dl fd sc SO tso M)) rfl hR (small_one (by omega) (by omega) (by omega) (by omega)) ?_ F2 N2 ?_ ?_ ?_
  · rw [rangeSize_one]; split <;> omega
  · exact ⟨rfl, fun y _ _ => rfl⟩
  · rintro i ti m₁ nx h6 tk6 own I hi hown hI hnx ⟨rfl, hm⟩ F6 N6
    have F7 : Fr g0 L h6 _ := fr_eq2 F6 hm
    have N7 : News g0 L h6 _ := N6
    clear F6 N6 F2 N2
    unfold lapM lawM at F7
    rw [hled] at N7
    obtain ⟨k, hk⟩ : ∃ k : Nat, (1 : Int) + (i : Int) = k := ⟨1 + i, by omega⟩
    rw [hk] at F7
    refine wpAny_execs_cons ?_
    (try k_fold)
    k_steps
    unfold Stop
    refine wpAny_execs_cons ?_
    (try k_fold)
    k_steps
    · unfold Stop
      rename 0 < (SO.length : Int) - _ => hpos
      rename News g0 L _ _ => N8
      have hin := hsh i (by omega)
      rw [show ((k : Int)).toNat = i + 1 by omega, show ((k : Int) - 1).toNat = i by omega] at hpos
      have hin2 := hin hpos
      rw [show ((k : Int)).toNat = i + 1 by omega, show ((k : Int) - 1).toNat = i by omega]
      refine notin_list_ints (is_led N8 (List.mem_append_left _ (.head _))) IL ?_
      rw [show laps.any (· == ((SO.length : Int) - (finds.getD (i + 1) 0 - finds.getD i 0))) = true from List.any_eq_true.mpr ⟨_, hin2, by simp⟩]
      (try k_fold)
      k_steps
      refine ⟨_, _, _, _, _, rfl, by assumption, N8, fun q hq => List.mem_append_left _ (by rw [hled] at hq; exact hq), fun q hq => List.mem_append_right _ hq, hnx, rfl, fun y hy1 hy2 => ?_⟩
      simp only [if_neg hy1, if_neg hy2]; rfl
    · rename News g0 L _ _ => N8
      refine ⟨_, _, _, _, _, rfl, by assumption, N8, fun q hq => List.mem_append_left _ (by rw [hled] at hq; exact hq), fun q hq => List.mem_append_right _ hq, hnx, rfl, fun y hy1 hy2 => ?_⟩
      simp only [if_neg hy1, if_neg hy2]; rfl
  · rintro m₁ nx h6 tk6 ⟨rfl, hm⟩ F6 N6
    replace F6 := fr_done2 F6 hm
    (try k_fold)
    k_steps
    unfold Stop
    exact next (fun y => if y = Str.ofString "k" then m₁ (Str.ofString "k") else if y = Str.ofString "shared" then m₁ (Str.ofString "shared") else if y = Str.ofString "laps" then some (.ref Dl) else M y) _ _ (frLoop F6) (fun q hq => N6 q (by rw [hled]; exact .tail _ hq))
end
end Mine
end
section -- CLaw11
theorem Mine.rstCLaw11 : True := by
  w_top off
  trivial
open PySem PySem.W PyProof.Rows PySem.Calls PySem.Builtin.Str PyProof
set_option Elab.async false
set_option maxRecDepth 100000
set_option maxHeartbeats 800000
set_option linter.unusedVariables false
namespace Mine
theorem fill16 : (PySem.Challenge.rw_nb0185_01 = PySem.Challenge.rw_nb0185_01 ∧ Mine.hd.heap_39 = Mine.hd.heap_39) → True := by k_fill; intro _; trivial
section
variable {w : World} {mean : ExcName → Option Value} {mg mb : Str → Option Value} {g0 h1 : Heap} {L fa sc : Addr} {s : Shared} {Q : Flow → Shared → Prop} {E : Value → Shared → Prop}
  {nm qn : Str} {params : Arguments} {body : List Stmt} {scope : Scope} {dV kV doc pm ct oc : Value} {an od : Option Addr} {osl : Array (Option Value)}
theorem wdCLaw11a : True := by
  k_with_none
  k_with "execs cons" => (k_here; (try k_gentoks); (try dsimp only); refine Stop.mk' ?_)
  trivial
noncomputable def rootOf (z p : Nat) : Nat := if z % p = 0 then p else z
theorem fmod_nat {z p : Nat} : (z : Int).fmod p = 0 ↔ z % p = 0 := by
  rw [Int.fmod_eq_emod_of_nonneg _ (by omega)]
  constructor
  · intro h
    have : ((z % p : Nat) : Int) = 0 := by rw [Int.natCast_emod]; exact h
    omega
  · intro h
    rw [← Int.natCast_emod, h]
    rfl
noncomputable def StR (g : Heap) (L : Addr) (s : Shared) (M : Str → Option Value) (led : List (Addr × Obj)) (r : Nat) (s' : Shared) : Prop := ∃ tr h tk, s' = { s with heap := h, toks := tk } ∧ Fr g L h (fun y => if y = Str.ofString "root" then some (.int r tr) else M y) ∧ News g L h led
theorem StR.elim {g : Heap} {L : Addr} {s s' : Shared} {M : Str → Option Value} {led : List (Addr × Obj)} {r : Nat} {P : Shared → Prop} (h : StR g L s M led r s') (k : ∀ tr h tk, Fr g L h (fun y => if y = Str.ofString "root" then some (.int r tr) else M y) → News g L h led → P { s with heap := h, toks := tk }) : P s' := by
  obtain ⟨tr, h, tk, rfl, h2, h3⟩ := h
  exact k tr h tk h2 h3
theorem law_12 {o1 o2 o3 : Obj} {a D fd : Addr} {vs vsD vsF : List Value} {n nD nF : Nat} {tab : List Int} {TX SO : Str} {tt tz tso : Tok} {qs : Array Value} {M : Str → Option Value} (hb : LawFn w nm qn params body scope dV kV doc pm ct oc an od osl)
  (B : Below callerA g0 [] g0) (X : (Mine.hd.heap_39 w.params).In g0) (T : Top topProg looseX mean mg mb g0)
  (F : Fr g0 L h1 (lawM fd sc SO tso M))
  (N : News g0 L h1 [(fd, lsO vsF nF), (D, lsO vsD nD), (a, lsO vs n), (L + 1 + 1 + 1, o3), (L + 1 + 1, o2), (L + 1, o1), (36, tabObj #[]), (103, tabObj qs)])
  (d1 : o1.data = .cell (some (.ref D))) (d2 : o2.data = .cell (some (.int SO.length tz))) (hs1 : 1 ≤ SO.length) (hs2 : SO.length ≤ 4)
  (ID : IntsAre vsD tab) (htl : tab.length = SO.length + 1 + TX.length) (htab : ∀ j, j < SO.length → tab.getD j 0 = (bd (fun j => ch SO j) j : Int))
  (next : ∀ M' tr h' tk, Fr g0 L h' (fun y => if y = Str.ofString "root" then some (.int (rootOf SO.length (SO.length - bd (fun j => ch SO j) (SO.length - 1)) : Nat) tr) else lawM fd sc SO tso M' y) →
    News g0 L h' [(fd, lsO vsF nF), (D, lsO vsD nD), (a, lsO vs n), (L + 1 + 1 + 1, o3), (L + 1 + 1, o2), (L + 1, o1), (36, tabObj #[]), (103, tabObj qs)] →
    wpAny (model Challenge.rw_nb0185_01.row.prog w) (lawA nm scope L fa) (execs (body.drop 17) (envOfC nm scope L fa (.ref 105))) Q E { s with heap := h', toks := tk }) :
  wpAny (model Challenge.rw_nb0185_01.row.prog w) (lawA nm scope L fa) (execs (body.drop 15) (envOfC nm scope L fa (.ref 105))) Q E { s with heap := h1 } := by
  unfold LawFn at hb
  conv at hb => lhs; whnf
  cases hb
  dsimp only [List.drop] at next ⊢
  unfold lawM at F
  refine wpAny_execs_cons ?_
  (try k_fold)
  k_steps
  unfold Stop
  rename Fr g0 L _ (fun y => if y = Str.ofString "step" then _ else _) => F2
  have hz0 : (SO.length : Int) - tab.getD ((SO.length : Int) - 1).toNat 0 = ((SO.length - bd (fun j => ch SO j) (SO.length - 1) : Nat) : Int) := by
    have := bd_le (fun j => ch SO j) (SO.length - 1)
    rw [show ((SO.length : Int) - 1).toNat = SO.length - 1 by omega, htab _ (by omega)]
    omega
  rw [hz0] at F2
  have hp1 : 1 ≤ SO.length - bd (fun j => ch SO j) (SO.length - 1) := by have := bd_le (fun j => ch SO j) (SO.length - 1); omega
  have hp2 : SO.length - bd (fun j => ch SO j) (SO.length - 1) ≤ 4 := by omega
  generalize SO.length - bd (fun j => ch SO j) (SO.length - 1) = p at F2 hp1 hp2 next
  obtain ⟨tp, F2⟩ : ∃ tp, Fr g0 L _ (fun y => if y = Str.ofString "step" then some (.int (p : Int) tp) else lawM fd sc SO tso M y) := ⟨_, F2⟩
  unfold lawM at F2
  refine join_at (StR g0 L s (fun y => if y = Str.ofString "step" then some (.int (p : Int) tp) else lawM fd sc SO tso M y) [(fd, lsO vsF nF), (D, lsO vsD nD), (a, lsO vs n), (L + 1 + 1 + 1, o3), (L + 1 + 1, o2), (L + 1, o1), (36, tabObj #[]), (103, tabObj qs)] (rootOf SO.length p)) ?_ ?_
  · (try k_fold)
    k_steps
    · rename _ = (0 : Int) => hm0
      have er : rootOf SO.length p = p := if_pos (fmod_nat.mp hm0)
      rw [er]
      exact ⟨_, _, _, rfl, by assumption, by assumption⟩
    · rename _ ≠ (0 : Int) => hm0
      have er : rootOf SO.length p = SO.length := if_neg (fun h => hm0 (fmod_nat.mpr h))
      rw [er]
      exact ⟨_, _, _, rfl, by assumption, by assumption⟩
  · intro s3 hJ
    refine hJ.elim ?_
    intro tr h3 tk3 F3 N3
    exact next (fun y => if y = Str.ofString "step" then some (.int (p : Int) tp) else M y) tr _ _ (fr_congr F3 fun y => by
      unfold lawM
      by_cases h1 : y = Str.ofString "step"
      · subst h1; rfl
      · simp only [if_neg h1]) N3
end
end Mine
end
section -- CLaw12
theorem Mine.rstCLaw12 : True := by
  w_top off
  trivial
open PySem PySem.W PyProof.Rows PySem.Calls PySem.Builtin.Str PyProof
set_option Elab.async false
set_option maxRecDepth 100000
set_option maxHeartbeats 800000
set_option linter.unusedVariables false
namespace Mine
theorem fill17 : (PySem.Challenge.rw_nb0185_01 = PySem.Challenge.rw_nb0185_01 ∧ Mine.hd.heap_39 = Mine.hd.heap_39) → True := by k_fill; intro _; trivial
section
variable {w : World} {mean : ExcName → Option Value} {mg mb : Str → Option Value} {g0 h1 : Heap} {L fa sc : Addr} {s : Shared} {Q : Flow → Shared → Prop} {E : Value → Shared → Prop}
  {nm qn : Str} {params : Arguments} {body : List Stmt} {scope : Scope} {dV kV doc pm ct oc : Value} {an od : Option Addr} {osl : Array (Option Value)}
theorem wdCLaw12a : True := by
  k_with_none
  k_with "execs cons" => (k_here; (try k_gentoks); (try dsimp only); refine Stop.mk' ?_)
  k_with "call type:frozenset" => (k_here; refine Stop.mk' ?_)
  k_with "binaryOp Add str str" => (k_here; refine add_o (by omega) ?_; intro z hz hl t' tk')
  k_with "call ref" => (k_here; (with_reducible show wpAny _ _ (call (Value.ref 96) _) _ _ _); refine Stop.mk' ?_)
  trivial
theorem news_swap {g h : Heap} {L : Addr} {x y : Addr × Obj} {r : List (Addr × Obj)} (N : News g L h (x :: y :: r)) : News g L h (y :: x :: r) := fun q hq => N q (by
  rcases List.mem_cons.mp hq with rfl | hq
  · exact .tail _ (.head _)
  · rcases List.mem_cons.mp hq with rfl | hq
    · exact .head _
    · exact .tail _ (.tail _ hq))
theorem news_more {g h : Heap} {L : Addr} {x : Addr × Obj} {r xs : List (Addr × Obj)} (N : News g L h (x :: xs)) (hs : ∀ q ∈ r, q ∈ xs) : News g L h (x :: (r ++ xs)) := fun q hq => N q (by
  rcases List.mem_cons.mp hq with rfl | hq
  · exact .head _
  · rcases List.mem_append.mp hq with hq | hq
    · exact .tail _ (hs q hq)
    · exact .tail _ hq)
theorem law_13 {o1 o2 o3 : Obj} {a D fd : Addr} {vs vsD vsF : List Value} {n nD nF r : Nat} {TX SO : Str} {tt tz tso tr : Tok} {qs : Array Value} {M : Str → Option Value} (hb : LawFn w nm qn params body scope dV kV doc pm ct oc an od osl)
  (B : Below callerA g0 [] g0) (X : (Mine.hd.heap_39 w.params).In g0) (T : Top topProg looseX mean mg mb g0) (CB : CodeHd g0 40 36)
  (F : Fr g0 L h1 (fun y => if y = Str.ofString "root" then some (.int (r : Int) tr) else lawM fd sc SO tso M y))
  (N : News g0 L h1 [(36, tabObj #[]), (fd, lsO vsF nF), (D, lsO vsD nD), (a, lsO vs n), (L + 1 + 1 + 1, o3), (L + 1 + 1, o2), (L + 1, o1), (103, tabObj qs)])
  (hs1 : 1 ≤ SO.length) (hs2 : SO.length ≤ 4) (hL1 : @LT.lt Nat _ 36 L) (e1 : @Ne Nat fd 36) (e2 : @Ne Nat D 36) (e3 : @Ne Nat a 36)
  (hxc : ∀ c ∈ SO.cps.toList, c < 16 ^ 8) (hroot : ∀ v, ToldV (SO ++ SO) SO 1 true (fun _ => false) v → ∃ tn, v = .int (r : Int) tn)
  (next : ∀ M' h' tk ps xs, TabI ps xs → (∀ q ∈ xs, q.1 ≠ 36) → Fr g0 L h' (lawM fd sc SO tso M') →
    News g0 L h' ((36, tabObj ps) :: ([(fd, lsO vsF nF), (D, lsO vsD nD), (a, lsO vs n), (L + 1 + 1 + 1, o3), (L + 1 + 1, o2), (L + 1, o1), (103, tabObj qs)] ++ xs)) →
    wpAny (model Challenge.rw_nb0185_01.row.prog w) (lawA nm scope L fa) (execs (body.drop 18) (envOfC nm scope L fa (.ref 105))) Q E { s with heap := h', toks := tk }) :
  wpAny (model Challenge.rw_nb0185_01.row.prog w) (lawA nm scope L fa) (execs (body.drop 17) (envOfC nm scope L fa (.ref 105))) Q E { s with heap := h1 } := by
  unfold LawFn at hb
  conv at hb => lhs; whnf
  cases hb
  dsimp only [List.drop] at next ⊢
  unfold lawM at F
  refine wpAny_execs_cons ?_
  (try k_fold)
  k_steps
  unfold Stop
  refine new_fs_0 (by assumption) (by assumption) ?_
  intro fs h5 ofs hfs F5 N5 lt5
  have e4 : @LT.lt Nat _ 36 fs := lt5 (36, tabObj #[]) (.head _)
  have F6 : Fr g0 L h5 _ := F5
  clear F5
  (try k_fold)
  k_steps
  unfold Stop
  have hz1 : ∀ c ∈ (SO ++ SO).cps.toList, c < 16 ^ 8 := fun c hc => by
    have : c ∈ (SO.cps ++ SO.cps).toList := hc
    rw [Array.toList_append, List.mem_append] at this
    exact this.elim (hxc c) (hxc c)
  rename _ = SO ++ SO => hz
  rename Str => zz
  subst hz
  refine call_told (A₀ := callerA) (fs := fs) (fso := ofs) (news := (fs, ofs) :: [(fd, lsO vsF nF), (D, lsO vsD nD), (a, lsO vs n), (L + 1 + 1 + 1, o3), (L + 1 + 1, o2), (L + 1, o1), (103, tabObj qs)]) B F6 X X CB (news_swap N5) ?_ (.inl rfl) T T rfl (by decide) (by decide) (by omega) (by decide) (by omega) (by omega) hxc hz1 (.head _) hfs (by decide) ?_
  · intro q hq
    simp only [List.mem_cons, List.mem_nil_iff, or_false] at hq
    rcases hq with rfl | rfl | rfl | rfl | rfl | rfl | rfl | rfl
    · exact Nat.ne_of_gt e4
    · exact e1
    · exact e2
    · exact e3
    · show @Ne Nat (L + 1 + 1 + 1) 36; omega
    · show @Ne Nat (L + 1 + 1) 36; omega
    · show @Ne Nat (L + 1) 36; omega
    · show @Ne Nat 103 36; decide
  intro v h7 ps7 news7 tk7 hv F7 N7 I7 l7 sub7
  obtain ⟨tn, rfl⟩ := hroot v hv
  have N8 : News g0 L h7 ((36, tabObj ps7) :: ([(fd, lsO vsF nF), (D, lsO vsD nD), (a, lsO vs n), (L + 1 + 1 + 1, o3), (L + 1 + 1, o2), (L + 1, o1), (103, tabObj qs)] ++ news7)) := news_more N7 fun q hq => sub7 q (.tail _ hq)
  clear N7 F6 F N N5
  (try k_fold)
  k_steps
  · rename (r : Int) ≠ r => hne
    exact absurd rfl hne
  · unfold Stop
    refine next (fun y => if y = Str.ofString "root" then some (.int (r : Int) tr) else M y) _ _ ps7 news7 I7 l7 (fr_congr F7 fun y => ?_) N8
    unfold lawM
    by_cases h1 : y = Str.ofString "root"
    · subst h1; rfl
    · simp only [if_neg h1]
end
end Mine
end
section -- CLaw13
theorem Mine.rstCLaw13 : True := by
  w_top off
  trivial
open PySem PySem.W PyProof.Rows PySem.Calls PySem.Builtin.Str PyProof
set_option Elab.async false
set_option maxRecDepth 100000
set_option maxHeartbeats 800000
set_option linter.unusedVariables false
namespace Mine
theorem fill18 : (PySem.Challenge.rw_nb0185_01 = PySem.Challenge.rw_nb0185_01 ∧ Mine.hd.heap_39 = Mine.hd.heap_39) → True := by k_fill; intro _; trivial
section
variable {w : World} {mean : ExcName → Option Value} {mg mb : Str → Option Value} {g0 h1 : Heap} {L fa sc : Addr} {s : Shared} {Q : Flow → Shared → Prop} {E : Value → Shared → Prop}
  {nm qn : Str} {params : Arguments} {body : List Stmt} {scope : Scope} {dV kV doc pm ct oc : Value} {an od : Option Addr} {osl : Array (Option Value)}
theorem wdCLaw13a : True := by
  k_with_none
  k_with "execs cons" => (k_here; (try k_gentoks); (try dsimp only); refine Stop.mk' ?_)
  k_with "call type:frozenset" => (k_here; refine Stop.mk' ?_)
  trivial
/-- the frozenset of barred signs -/
noncomputable def StB (w : World) (g : Heap) (L : Addr) (s : Shared) (M : Str → Option Value) (x : Addr × Obj) (led : List (Addr × Obj)) (s' : Shared) : Prop :=
  ∃ fs ofs S nS h tk, s' = { s with heap := h, toks := tk } ∧ FsO Challenge.rw_nb0185_01.row.prog w ofs S nS ∧ nS < 64 ∧ Fr g L h (fun y => if y = Str.ofString "bars" then some (.ref fs) else M y) ∧ News g L h ((fs, ofs) :: x :: led) ∧ @LT.lt Nat _ x.1 fs
theorem StB.elim {w : World} {g : Heap} {L : Addr} {s s' : Shared} {M : Str → Option Value} {x : Addr × Obj} {led : List (Addr × Obj)} {P : Shared → Prop} (h : StB w g L s M x led s')
    (k : ∀ fs ofs S nS h tk, FsO Challenge.rw_nb0185_01.row.prog w ofs S nS → nS < 64 → Fr g L h (fun y => if y = Str.ofString "bars" then some (.ref fs) else M y) → News g L h ((fs, ofs) :: x :: led) → @LT.lt Nat _ x.1 fs → P { s with heap := h, toks := tk }) : P s' := by
  obtain ⟨fs, ofs, S, nS, h, tk, rfl, h1, h2, h3, h4, h5⟩ := h
  exact k fs ofs S nS h tk h1 h2 h3 h4 h5
theorem nd1 : ∀ i c, (Str.ofString "!").cps[i]? = some c → sgns (Str.ofString "!") i ⟨#[c]⟩ = false := by
  have e : (Str.ofString "!").cps = #[33] := by decide
  unfold sgns
  rw [e]
  intro i c h
  cases i with
  | zero => rfl
  | succ i => simp at h
theorem nd2 : ∀ i c, (Str.ofString "!\n").cps[i]? = some c → sgns (Str.ofString "!\n") i ⟨#[c]⟩ = false := by
  have e : (Str.ofString "!\n").cps = #[33, 10] := by decide
  unfold sgns
  rw [e]
  intro i c h
  cases i with
  | zero => rfl
  | succ i =>
    cases i with
    | zero => simp at h; subst h; decide
    | succ i => simp at h
theorem law_14 {o1 o2 o3 : Obj} {a D fd : Addr} {vs vsD vsF vs0 : List Value} {n nD nF : Nat} {ns0 : List Int} {SO : Str} {tso : Tok} {ps qs : Array Value} {xs : List (Addr × Obj)} {M : Str → Option Value} (hb : LawFn w nm qn params body scope dV kV doc pm ct oc an od osl)
  (B : Below callerA g0 [] g0) (X : (Mine.hd.heap_39 w.params).In g0) (T : Top topProg looseX mean mg mb g0)
  (hsc : g0.IsList sc vs0.toArray) (hI : IntsAre vs0 ns0) (hlen : ns0.length ≤ 63)
  (F : Fr g0 L h1 (lawM fd sc SO tso M))
  (N : News g0 L h1 ((36, tabObj ps) :: ([(fd, lsO vsF nF), (D, lsO vsD nD), (a, lsO vs n), (L + 1 + 1 + 1, o3), (L + 1 + 1, o2), (L + 1, o1), (103, tabObj qs)] ++ xs)))
  (next : ∀ M' h' tk fs ofs S nS b, FsO Challenge.rw_nb0185_01.row.prog w ofs S nS → nS < 64 → @LT.lt Nat _ 36 fs → Fr g0 L h' (fun y => if y = Str.ofString "strict" then some (.bool b) else if y = Str.ofString "bars" then some (.ref fs) else lawM fd sc SO tso M' y) →
    News g0 L h' ((36, tabObj ps) :: ([(fs, ofs), (fd, lsO vsF nF), (D, lsO vsD nD), (a, lsO vs n), (L + 1 + 1 + 1, o3), (L + 1 + 1, o2), (L + 1, o1), (103, tabObj qs)] ++ xs)) →
    wpAny (model Challenge.rw_nb0185_01.row.prog w) (lawA nm scope L fa) (execs (body.drop 20) (envOfC nm scope L fa (.ref 105))) Q E { s with heap := h', toks := tk }) :
  wpAny (model Challenge.rw_nb0185_01.row.prog w) (lawA nm scope L fa) (execs (body.drop 18) (envOfC nm scope L fa (.ref 105))) Q E { s with heap := h1 } := by
  unfold LawFn at hb
  conv at hb => lhs; whnf
  cases hb
  dsimp only [List.drop] at next ⊢
  unfold lawM at F
  refine join_at (StB w g0 L s (lawM fd sc SO tso M) (36, tabObj ps) ([(fd, lsO vsF nF), (D, lsO vsD nD), (a, lsO vs n), (L + 1 + 1 + 1, o3), (L + 1 + 1, o2), (L + 1, o1), (103, tabObj qs)] ++ xs)) ?_ ?_
  · (try k_fold)
    k_steps
    all_goals unfold Stop
    · refine new_fs_1 rfl (by assumption) (by assumption) (by decide) nd2 ?_
      intro fs h5 tk5 ofs hfs F5 N5 lt5
      have F6 : Fr g0 L h5 _ := F5
      have N6 : News g0 L h5 _ := N5
      clear F5 N5
      (try k_fold)
      k_steps
      exact ⟨fs, ofs, _, _, _, _, rfl, hfs, by decide, by assumption, by assumption, lt5 _ (.head _)⟩
    · refine new_fs_1 rfl (by assumption) (by assumption) (by decide) nd1 ?_
      intro fs h5 tk5 ofs hfs F5 N5 lt5
      have F6 : Fr g0 L h5 _ := F5
      have N6 : News g0 L h5 _ := N5
      clear F5 N5
      (try k_fold)
      k_steps
      exact ⟨fs, ofs, _, _, _, _, rfl, hfs, by decide, by assumption, by assumption, lt5 _ (.head _)⟩
  · intro s3 hJ
    refine hJ.elim ?_
    intro fs ofs S nS h3 tk3 hfs hnS F3 N3 lt3
    clear hJ
    unfold lawM at F3
    clear F N
    refine wpAny_execs_cons ?_
    (try k_fold)
    k_steps
    unfold Stop
    exact next M _ _ fs ofs S nS _ hfs hnS lt3 (by assumption) (news_swap (by assumption))
end
end Mine
end
section -- CLaw14
theorem Mine.rstCLaw14 : True := by
  w_top off
  trivial
open PySem PySem.W PyProof.Rows PySem.Calls PySem.Builtin.Str PyProof
set_option Elab.async false
set_option maxRecDepth 100000
set_option maxHeartbeats 800000
set_option linter.unusedVariables false
namespace Mine
theorem fill19 : (PySem.Challenge.rw_nb0185_01 = PySem.Challenge.rw_nb0185_01 ∧ Mine.hd.heap_39 = Mine.hd.heap_39) → True := by k_fill; intro _; trivial
section
variable {w : World} {mean : ExcName → Option Value} {mg mb : Str → Option Value} {g0 h1 : Heap} {L fa sc : Addr} {s : Shared} {Q : Flow → Shared → Prop} {E : Value → Shared → Prop}
  {nm qn : Str} {params : Arguments} {body : List Stmt} {scope : Scope} {dV kV doc pm ct oc : Value} {an od : Option Addr} {osl : Array (Option Value)}
theorem wdCLaw14a : True := by
  k_with_none
  k_with "execs cons" => (k_here; (try k_gentoks); (try dsimp only); refine Stop.mk' ?_)
  k_with "pyIter ref" => (k_here; refine Stop.mk' ?_)
  k_with "call ref" => (k_here; (first | (with_reducible show wpAny _ _ (call (Value.ref 96) _) _ _ _) | (with_reducible show wpAny _ _ (call (Value.ref 101) _) _ _ _)); refine Stop.mk' ?_)
  trivial
/-- two answers are the same -/
inductive SameV : Value → Value → Prop
  | int (k : Int) (t u : Tok) : SameV (.int k t) (.int k u)
  | str (z : Str) (t u : Tok) : SameV (.str z t) (.str z u)
noncomputable def MainJ (M : Str → Option Value) (ex : List (Addr × Obj)) (m : Str → Option Value) (nx : List (Addr × Obj)) : Prop :=
  ∃ ps xs, nx = (36, tabObj ps) :: (ex ++ xs) ∧ TabI ps xs ∧ (∀ q ∈ xs, q.1 ≠ 36) ∧ ∀ y, y ≠ Str.ofString "place" → m y = M y
noncomputable def mainM (b : Bool) (fs fd sc : Addr) (SO : Str) (tso : Tok) (M : Str → Option Value) (y : Str) : Option Value := if y = Str.ofString "strict" then some (.bool b) else if y = Str.ofString "bars" then some (.ref fs) else lawM fd sc SO tso M y
noncomputable abbrev rngIt (x y : Int) : Obj := { cls := .type "range_iterator", dict := none, data := .fields #[rawInt x, rawInt y, rawInt 1], slots := #[] }
theorem main_end {g h6 h10 : Heap} {L I : Addr} {tk6 tk10 : Nat} {m M : Str → Option Value} {ex news8 own : List (Addr × Obj)} {ps8 : Array Value} (F10 : Fr g L h10 m) (N10 : News g L h10 ((36, tabObj ps8) :: (ex ++ news8))) (I8 : TabI ps8 news8)
    (hsub : ∀ q ∈ own, q ∈ news8) (l8 : ∀ q ∈ news8, q.1 ≠ 36) (hex : ∀ p ∈ ex, p.1 ≠ I) (h36 : @Ne Nat 36 I) (hI : ∃ a b, (I, rngIt a b) ∈ own) (hm : ∀ y, y ≠ Str.ofString "place" → m y = M y) :
    InvEndI g L (MainJ M ex) own I { s with heap := h6, toks := tk6 } { s with heap := h10, toks := tk10 } := by
  obtain ⟨x, y, hxy⟩ := hI
  rcases I8 with rfl | ⟨c, oc, vs, t, rfl, hmem, hd, hv⟩
  · refine ⟨h10, tk10, m, _, (36, tabObj #[]) :: (ex ++ []), rfl, F10, N10, fun p hp => ?_, fun p hp => .tail _ (List.mem_append_right _ (hsub p hp)), fun p hp => ?_, #[], [], rfl, .inl rfl, fun _ h => (List.not_mem_nil h).elim, hm⟩
    · rw [List.append_nil] at hp
      rcases List.mem_cons.mp hp with rfl | hp
      · exact .head _
      · exact .tail _ (List.mem_append_left _ hp)
    · rw [List.append_nil] at hp
      rcases List.mem_cons.mp hp with rfl | hp
      · exact h36
      · exact hex p hp
  · have hcI : c ≠ I := fun e => by
      have h1 := (N10 (c, oc) (.tail _ (List.mem_append_right _ hmem))).1
      have h2 := (N10 (I, rngIt x y) (.tail _ (List.mem_append_right _ (hsub _ hxy)))).1
      simp only [e] at h1
      have h3 : oc = rngIt x y := Option.some.inj (h1.symm.trans h2)
      rw [h3] at hd
      cases hd
      simp [rawInt] at hv
    refine ⟨h10, tk10, m, _, (36, tabObj #[rawInt 18, rawInt 4, .ref c]) :: (ex ++ [(c, oc)]), rfl, F10, N10, fun p hp => ?_, fun p hp => .tail _ (List.mem_append_right _ (hsub p hp)), fun p hp => ?_, _, [(c, oc)], rfl, .inr ⟨c, oc, vs, t, rfl, .head _, hd, hv⟩, fun q hq => ?_, hm⟩
    · rcases List.mem_cons.mp hp with rfl | hp
      · exact .head _
      · rcases List.mem_append.mp hp with hp | hp
        · exact .tail _ (List.mem_append_left _ hp)
        · rw [List.mem_singleton.mp hp]
          exact .tail _ (List.mem_append_right _ hmem)
    · rcases List.mem_cons.mp hp with rfl | hp
      · exact h36
      · rcases List.mem_append.mp hp with hp | hp
        · exact hex p hp
        · rw [List.mem_singleton.mp hp]
          exact hcI
    · rw [List.mem_singleton.mp hq]
      exact l8 _ hmem
theorem MainJ.elim {M m : Str → Option Value} {ex nx : List (Addr × Obj)} {P : List (Addr × Obj) → Prop} (h : MainJ M ex m nx)
    (k : ∀ ps xs, TabI ps xs → (∀ q ∈ xs, q.1 ≠ 36) → (∀ y, y ≠ Str.ofString "place" → m y = M y) → P ((36, tabObj ps) :: (ex ++ xs))) : P nx := by
  obtain ⟨ps, xs, rfl, h1, h2, h3⟩ := h
  exact k ps xs h1 h2 h3
theorem law_15 {o1 o2 o3 : Obj} {a D fd fs : Addr} {ofs : Obj} {S : Str → Bool} {nS : Nat} {b : Bool} {vs vsD vsF : List Value} {n nD nF : Nat} {finds : List Int} {TX SO : Str} {tso tt : Tok} {ps qs : Array Value} {xs : List (Addr × Obj)} {M : Str → Option Value} (hb : LawFn w nm qn params body scope dV kV doc pm ct oc an od osl)
  (B : Below callerA g0 [] g0) (X : (Mine.hd.heap_39 w.params).In g0) (T : Top topProg looseX mean mg mb g0) (CB : CodeHd g0 40 36)
  (hE : PassesOwn (model Challenge.rw_nb0185_01.row.prog w) (lawA nm scope L fa) (envOfC nm scope L fa (.ref 105)) E)
  (hfs : FsO Challenge.rw_nb0185_01.row.prog w ofs S nS) (hnS : nS < 64) (e0 : @LT.lt Nat _ 36 fs) (hL1 : @LT.lt Nat _ 36 L) (e1 : @Ne Nat fd 36) (e2 : @Ne Nat D 36) (e3 : @Ne Nat a 36)
  (F : Fr g0 L h1 (fun y => if y = Str.ofString "strict" then some (.bool b) else if y = Str.ofString "bars" then some (.ref fs) else lawM fd sc SO tso M y))
  (N : News g0 L h1 ((36, tabObj ps) :: ([(fs, ofs), (fd, lsO vsF nF), (D, lsO vsD nD), (a, lsO vs n), (L + 1 + 1 + 1, o3), (L + 1 + 1, o2), (L + 1, o1), (103, tabObj qs)] ++ xs)))
  (I0 : TabI ps xs) (l0 : ∀ q ∈ xs, q.1 ≠ 36)
  (d3 : o3.data = .cell (some (.str TX tt))) (hTl : TX.length ≤ 20) (hs1 : 1 ≤ SO.length) (hs2 : SO.length ≤ 4)
  (hxc : ∀ c ∈ SO.cps.toList, c < 16 ^ 8) (hpc : ∀ c ∈ TX.cps.toList, c < 16 ^ 8) (If : IntsAre vsF finds) (hfl : finds.length ≤ 20) (hfb : ∀ k ∈ finds, k ≤ (TX.length : Int))
  (hsame : ∀ (i : Nat) v1 v2, i ≤ TX.length → ToldV TX SO i b S v1 → DueV TX SO i b S (finds.filter (fun k => decide (k ≥ (i : Int)))) v2 → SameV v1 v2)
  (done : ∀ m' h' tk ps' nx, Fr g0 L h' m' → News g0 L h' ((36, tabObj ps') :: (103, tabObj qs) :: nx) → Q (.ret (.bool true)) { s with heap := h', toks := tk }) :
  wpAny (model Challenge.rw_nb0185_01.row.prog w) (lawA nm scope L fa) (execs (body.drop 20) (envOfC nm scope L fa (.ref 105))) Q E { s with heap := h1 } := by
  unfold LawFn at hb
  conv at hb => lhs; whnf
  cases hb
  dsimp only [List.drop]
  unfold lawM at F
  refine wpAny_execs_cons ?_
  with_unfolding_all refine For_invVF F rfl rfl ?_ (fun _ => rfl) hE
  (try k_fold)
  k_steps
  unfold Stop
  rename Fr g0 L h1 _ => F1
  rename Fr g0 L _ _ => F2
  rename News g0 L h1 _ => N1
  rename News g0 L _ _ => N2
  rename IsRange _ _ _ _ _ _ _ _ => hR
  obtain ⟨ex, hex⟩ : ∃ ex, ex = [(fs, ofs), (fd, lsO vsF nF), (D, lsO vsD nD), (a, lsO vs n), (L + 1 + 1 + 1, o3), (L + 1 + 1, o2), (L + 1, o1), (103, tabObj qs)] := ⟨_, rfl⟩
  refine iter_rangeG (n := TX.length + 1) (fun _ => MainJ (mainM b fs fd sc SO tso M) ex) rfl hR (small_one (by omega) (by omega) (by omega) (by omega)) ?_ F2 N2 ?_ ?_ ?_
  · rw [rangeSize_one]; split <;> omega
  · exact ⟨ps, xs, by rw [hex], I0, l0, fun y _ => rfl⟩
  · rintro i ti m₁ nx h6 tk6 own I hi hown hI hnx ⟨ps6, xs6, rfl, I6, l6, hm⟩ F6 N6
    have F7 : Fr g0 L h6 _ := fr_eq F6 hm
    have N7 : News g0 L h6 _ := N6
    rw [hex] at N7 hnx
    have hIo : ∃ a b, (I, rngIt a b) ∈ own := by
      obtain ⟨oI, aI, bI, hio, hir⟩ := hI
      have h1 := (N7 (I, oI) (List.mem_append_right _ hio)).1
      have h2 : oI = rngIt aI bI := by
        have := h1.symm.trans hir
        exact Option.some.inj this
      exact ⟨aI, bI, h2 ▸ hio⟩
    clear F6 N6 F1 N1 F2 N2
    unfold mainM lawM at F7
    rw [Int.zero_add] at F7
    have hI36 : @Ne Nat 36 I := hnx (36, tabObj ps6) (.head _)
    refine wpAny_execs_cons ?_
    (try k_fold)
    k_steps
    unfold Stop
    refine call_told (A₀ := callerA) (fs := fs) (fso := ofs) (S := S) (n := nS) (ps := ps6) (news := [(fs, ofs), (fd, lsO vsF nF), (D, lsO vsD nD), (a, lsO vs n), (L + 1 + 1 + 1, o3), (L + 1 + 1, o2), (L + 1, o1), (103, tabObj qs)] ++ xs6 ++ own) B (by assumption) X X CB (by assumption) ?_ (I6.more fun q hq => List.mem_append_left _ (List.mem_append_right _ hq)) T T rfl (by decide) (by decide) (by omega) (by omega) (by omega) (by omega) hxc hpc (.head _) hfs hnS ?_
    · intro q hq
      rcases List.mem_append.mp hq with hq | hq
      · rcases List.mem_append.mp hq with hq | hq
        · simp only [List.mem_cons, List.mem_nil_iff, or_false] at hq
          rcases hq with rfl | rfl | rfl | rfl | rfl | rfl | rfl | rfl
          · exact Nat.ne_of_gt e0
          · exact e1
          · exact e2
          · exact e3
          · show @Ne Nat (L + 1 + 1 + 1) 36; omega
          · show @Ne Nat (L + 1 + 1) 36; omega
          · show @Ne Nat (L + 1) 36; omega
          · show @Ne Nat 103 36; decide
        · exact l6 q hq
      · rw [hown q hq]; exact Ne.symm hI36
    intro v1 h8 ps8 news8 tk8 hv1 F8 N8 I8 l8 sub8
    have N9 : News g0 L h8 ((36, tabObj ps8) :: ([(fs, ofs), (fd, lsO vsF nF), (D, lsO vsD nD), (a, lsO vs n), (L + 1 + 1 + 1, o3), (L + 1 + 1, o2), (L + 1, o1), (103, tabObj qs)] ++ news8)) := news_more N8 fun q hq => sub8 q (List.mem_append_left _ (List.mem_append_left _ hq))
    clear N8 N7 F7
    (try k_fold)
    k_steps
    unfold Stop
    refine call_due (A₀ := callerA) (outer := []) (fs := fs) (fso := ofs) (S := S) (n := nS) (fa := fd) (ns := finds) B (by assumption) X N9 T rfl (by decide) (by decide) (by omega) (by omega) (by omega) (by omega) hxc hpc (.tail _ (.head _)) hfs hnS (.tail _ (.tail _ (.head _))) rfl If (by omega) hfb ?_
    intro v2 h10 tk10 hv2 F10 N10
    have hS := hsame i v1 v2 (by omega) hv1 hv2
    cases hS with
    | int kk t1 t2 =>
      (try k_fold)
      k_steps
      · rename kk ≠ kk => hne
        exact absurd rfl hne
      · exact main_end (ex := ex) F10 (by rw [hex]; exact N10) I8 (fun q hq => sub8 q (List.mem_append_right _ hq)) l8 (fun p hp => hnx p (.tail _ (List.mem_append_left _ (by rw [hex] at hp; exact hp)))) hI36 hIo (fun y hy => if_neg hy)
    | str zz t1 t2 =>
      (try k_fold)
      k_steps
      · rename (zz != zz) = true => hne
        simp at hne
      · exact main_end (ex := ex) F10 (by rw [hex]; exact N10) I8 (fun q hq => sub8 q (List.mem_append_right _ hq)) l8 (fun p hp => hnx p (.tail _ (List.mem_append_left _ (by rw [hex] at hp; exact hp)))) hI36 hIo (fun y hy => if_neg hy)
  · rintro m₁ nx h6 tk6 ⟨ps6, xs6, rfl, I6, l6, hm⟩ F6 N6
    replace F6 := fr_done F6 hm
    rw [hex] at N6
    (try k_fold)
    k_steps
    unfold Stop
    refine wpAny_execs_cons ?_
    (try k_fold)
    k_steps
    refine done _ _ _ ps6 [] F6 (fun q hq => N6 q ?_)
    rcases List.mem_cons.mp hq with rfl | hq
    · exact .head _
    · rw [List.mem_singleton.mp hq]
      exact .tail _ (.tail _ (.tail _ (.tail _ (.tail _ (.tail _ (.tail _ (.tail _ (.head _))))))))
end
end Mine
end
end
theorem Mine.lookC {M : PySem.Model} {A : PySem.Around} {env : PySem.Env} {Q : PySem.Flow → PySem.Shared → Prop} {E : PySem.Value → PySem.Shared → Prop} {s : PySem.Shared} (h : PySem.wpAny M A (PySem.execs [] env) Q E s) : PySem.wpAny M A (PySem.execs [] env) Q E s := by
  w_top off
  first | (walk1; done) | exact h
section -- MSame
theorem Mine.rstMSame : True := by
  w_top off
  trivial
open PySem PySem.W PyProof PyProof.Rows PySem.Calls PySem.Builtin PySem.Builtin.Str PySem.StrLaws
set_option Elab.async false
set_option maxRecDepth 100000
namespace Mine
theorem occ1_cases (p x : Str) (i : Nat) : (occ1 p x i = [] ∧ ∀ k, i ≤ k → ¬ Occ p x k) ∨ ∃ k r, occ1 p x i = k :: r ∧ i ≤ k ∧ Occ p x k ∧ ∀ j, i ≤ j → j < k → ¬ Occ p x j := by
  unfold occ1
  rw [from_nat]
  rcases occ_hi p x i p.length 1 (by decide) with ⟨h1, h2⟩ | ⟨k, r, h1, h2, h3, h4⟩
  · exact .inl ⟨h1, fun k hk ho => h2 k hk (at_iff.mpr ho)⟩
  · exact .inr ⟨k, r, h1, h2, at_iff.mp h3, fun j hj1 hj2 ho => h4 j hj1 hj2 (at_iff.mpr ho)⟩
theorem al_cases {p x : Str} {finds : List Int} (hpw : finds.Pairwise (· < ·)) (hfs : ∀ k : Int, k ∈ finds ↔ ∃ i : Nat, k = i ∧ Occ p x i) (i : Nat) :
    (finds.filter (fun k => decide (k ≥ (i : Int))) = [] ∧ occ1 p x i = []) ∨ ∃ (k : Nat) (r : List Int) (r' : List Nat), finds.filter (fun k => decide (k ≥ (i : Int))) = (k : Int) :: r ∧ occ1 p x i = k :: r' := by
  have hmem : ∀ k : Int, k ∈ finds.filter (fun k => decide (k ≥ (i : Int))) ↔ ∃ j : Nat, k = j ∧ i ≤ j ∧ Occ p x j := by
    intro k
    rw [List.mem_filter, hfs]
    constructor
    · rintro ⟨⟨j, rfl, hj⟩, h⟩
      exact ⟨j, rfl, by have := of_decide_eq_true h; omega, hj⟩
    · rintro ⟨j, rfl, h, hj⟩
      exact ⟨⟨j, rfl, hj⟩, decide_eq_true (by omega)⟩
  have hpw2 : (finds.filter (fun k => decide (k ≥ (i : Int)))).Pairwise (· < ·) := List.Pairwise.filter _ hpw
  generalize finds.filter (fun k => decide (k ≥ (i : Int))) = al at hmem hpw2
  rcases occ1_cases p x i with ⟨h1, h2⟩ | ⟨k, r, h1, h2, h3, h4⟩
  · cases al with
    | nil => exact .inl ⟨rfl, h1⟩
    | cons a t =>
      obtain ⟨j, _, hj1, hj2⟩ := (hmem a).mp (.head _)
      exact absurd hj2 (h2 j hj1)
  · cases al with
    | nil => exact absurd ((hmem k).mpr ⟨k, rfl, h2, h3⟩) List.not_mem_nil
    | cons a t =>
      obtain ⟨j, rfl, hj1, hj2⟩ := (hmem a).mp (.head _)
      have hk := (hmem k).mpr ⟨k, rfl, h2, h3⟩
      have e : j = k := by
        rcases List.mem_cons.mp hk with hk | hk
        · omega
        · have := (List.pairwise_cons.mp hpw2).1 _ hk
          exact absurd hj2 (h4 j hj1 (by omega))
      subst e
      exact .inr ⟨j, t, r, rfl, h1⟩
theorem sapp_assoc (a b c : Str) : a ++ b ++ c = a ++ (b ++ c) := by
  show (⟨a.cps ++ b.cps ++ c.cps⟩ : Str) = ⟨a.cps ++ (b.cps ++ c.cps)⟩
  rw [Array.append_assoc]
theorem sempty_app (a : Str) : Str.empty ++ a = a := by
  show (⟨#[] ++ a.cps⟩ : Str) = a
  rw [Array.empty_append]
theorem eof_txt : Str.ofString " (at " ++ (Str.ofString "end of document" ++ Str.ofString ")") = Str.ofString " (at end of document)" := by decide
theorem eof_eq (p x : Str) : suffMsg p p.length (Str.empty ++ Str.ofString "Expected " ++ reprText x) = Str.ofString "Expected " ++ reprText x ++ Str.ofString " (at end of document)" := by
  unfold suffMsg coordS
  rw [if_pos (by omega)]
  simp only [sempty_app, sapp_assoc]
  rw [eof_txt]
theorem bar_eq {p : Str} {q : Nat} (hq : q < p.length) : suffMsg p q (Str.empty ++ Str.ofString "Found invalid character " ++ reprText (chS p q)) = dueMsg p q := by
  unfold suffMsg coordS dueMsg spotS
  rw [if_neg (by omega)]
  dsimp only
  have hcol : (if (occurrences p (Str.ofString "\n") (fromIndex p.length 0) (min (fromIndex p.length (q : Int)) p.length) (p.length + 1)).length = 0 then (q : Int) + 1 else (q : Int) - (((lastOccurrence p (Str.ofString "\n") (fromIndex p.length 0) (min (fromIndex p.length (q : Int)) p.length)).getD 0 : Nat) : Int)) = (q : Int) - rf p (Str.ofString "\n") (fromIndex p.length 0) (min (fromIndex p.length (q : Int)) p.length) := by
    by_cases hc : (occurrences p (Str.ofString "\n") (fromIndex p.length 0) (min (fromIndex p.length (q : Int)) p.length) (p.length + 1)).length = 0
    · rw [if_pos hc]
      have := count_zero (by omega) hc
      unfold rf
      rw [this]
      dsimp only
      omega
    · rw [if_neg hc]
      obtain ⟨k, hk, _⟩ := last_of_count (by omega) hc
      unfold rf
      rw [hk]
      rfl
  rw [hcol]
  simp only [sempty_app, sapp_assoc]
/-- what is told is what is due -/
theorem same_all {p x : Str} {finds : List Int} {b : Bool} {S : Str → Bool} (hpw : finds.Pairwise (· < ·)) (hfs : ∀ k : Int, k ∈ finds ↔ ∃ i : Nat, k = i ∧ Occ p x i) (i : Nat) (v1 v2 : Value) (_hi : i ≤ p.length)
    (h1 : ToldV p x i b S v1) (h2 : DueV p x i b S (finds.filter (fun k => decide (k ≥ (i : Int)))) v2) : SameV v1 v2 := by
  have hal := al_cases hpw hfs i
  generalize finds.filter (fun k => decide (k ≥ (i : Int))) = al at h2 hal
  -- the end, from SkMid
  have hend : ∀ np, SkMid p x i b np → endOf p al = (np : Int) ∧ (al = [] → b = false) := by
    intro np hmid
    rcases hal with ⟨ha, ho⟩ | ⟨k, r, r', ha, ho⟩
    · rcases hmid with ⟨r2, h⟩ | ⟨_, h, hb⟩
      · rw [ho] at h; cases h
      · rw [ha]; exact ⟨by rw [h]; rfl, fun _ => hb⟩
    · rcases hmid with ⟨r2, h⟩ | ⟨h, _, _⟩
      · rw [ho] at h
        injection h with h _
        rw [ha]
        exact ⟨by rw [← h]; rfl, fun h => by cases h⟩
      · rw [ho] at h; cases h
  cases h1 with
  | val np tn hmid hnp hall =>
    obtain ⟨he, hb⟩ := hend np hmid
    cases h2 with
    | eof tn2 ha hbt => rw [hb ha] at hbt; cases hbt
    | bar q tn2 _ hq1 hq2 hS _ =>
      rw [he] at hq2
      rw [hall q hq1 (by omega)] at hS
      cases hS
    | val tn2 _ _ => rw [he]; exact .int _ _ _
  | msg z tn hmsg =>
    cases hmsg with
    | eof ho hbt =>
      have ha : al = [] := by
        rcases hal with ⟨ha, _⟩ | ⟨k, r, r', _, ho2⟩
        · exact ha
        · rw [ho] at ho2; cases ho2
      cases h2 with
      | eof tn2 _ _ => rw [eof_eq]; exact .str _ _ _
      | bar q tn2 hb _ _ _ _ => rw [hb ha] at hbt; cases hbt
      | val tn2 hb _ => rw [hb ha] at hbt; cases hbt
    | bar np j hmid hj1 hj2 hnp hS hmin =>
      obtain ⟨he, hb⟩ := hend np hmid
      cases h2 with
      | eof tn2 ha hbt => rw [hb ha] at hbt; cases hbt
      | bar q tn2 _ hq1 hq2 hSq hminq =>
        have e : q = j := by
          rcases Nat.lt_trichotomy q j with h | h | h
          · rw [hmin q hq1 h] at hSq; cases hSq
          · exact h
          · rw [hminq j hj1 h] at hS; cases hS
        subst e
        rw [bar_eq (by omega)]
        exact .str _ _ _
      | val tn2 _ hallq =>
        rw [hallq j hj1 (by rw [he]; omega)] at hS
        cases hS
end Mine
end
section -- MRoot
theorem Mine.rstMRoot : True := by
  w_top off
  trivial
open PySem PySem.W PyProof PyProof.Rows PySem.Calls PySem.Builtin PySem.Builtin.Str PySem.StrLaws
set_option Elab.async false
set_option maxRecDepth 100000
namespace Mine
/-- the text laid down twice, from k on, is itself -/
noncomputable def Rot (c : Nat → Nat) (z k : Nat) : Prop := ∀ j, j < z → (if k + j < z then c (k + j) else c (k + j - z)) = c j
theorem div_cases : ∀ z p : Fin 5, 1 ≤ p.1 → p ≤ z → z.1 % p.1 = 0 → p = z ∨ p = 1 ∨ (z = 4 ∧ p = 2) := by decide
theorem mod_cases : ∀ z p k : Fin 5, 1 ≤ p.1 → p ≤ k → k < z → z.1 % p.1 ≠ 0 → (z = 3 ∧ p = 2 ∧ k = 2) ∨ (z = 4 ∧ p = 3 ∧ k = 3) := by decide
theorem rot_div {c : Nat → Nat} {z p : Nat} (hz : z ≤ 4) (hp : 1 ≤ p) (hpz : p ≤ z) (per : ∀ j, j + p < z → c j = c (p + j)) (hd : z % p = 0) : Rot c z p := by
  have hcase : p = z ∨ p = 1 ∨ (z = 4 ∧ p = 2) := by
    rcases div_cases ⟨z, Nat.lt_succ_of_le hz⟩ ⟨p, Nat.lt_succ_of_le (Nat.le_trans hpz hz)⟩ hp hpz hd with h | h | ⟨h, h'⟩
    · exact .inl (congrArg Fin.val h)
    · exact .inr (.inl (congrArg Fin.val h))
    · exact .inr (.inr ⟨congrArg Fin.val h, congrArg Fin.val h'⟩)
  intro j hj
  split
  · rename_i h
    exact (per j (Nat.add_comm p j ▸ h)).symm
  · rename_i h
    rcases hcase with rfl | rfl | ⟨rfl, rfl⟩
    · rw [Nat.add_sub_cancel_left]
    · have e0 : ∀ i, i < z → c i = c 0 := by
        intro i
        induction i with
        | zero => intro _; rfl
        | succ i ih =>
          intro hi
          rw [← ih (Nat.lt_of_succ_lt hi), per i hi, Nat.add_comm 1 i]
      rw [e0 j hj, e0 (1 + j - z) (by omega)]
    · match j, hj, h with
      | 2, _, _ => exact per 0 (by decide)
      | 3, _, _ => exact per 1 (by decide)
      | 0, _, h => exact absurd (by decide) h
      | 1, _, h => exact absurd (by decide) h
theorem root_core {c : Nat → Nat} {z p k : Nat} (hz4 : z ≤ 4) (hp : 1 ≤ p) (hpz : p ≤ z) (per : ∀ j, j + p < z → c j = c (p + j)) (least : ∀ q, 1 ≤ q → q < p → ¬ ∀ j, j + q < z → c j = c (q + j))
    (hk : 1 ≤ k) (hkz : k ≤ z) (rot : Rot c z k) (kmin : ∀ q, 1 ≤ q → q < k → ¬ Rot c z q) : k = rootOf z p := by
  have hpk : p ≤ k := Nat.le_of_not_lt fun h => least k hk h fun j hj => by
    have := rot j (Nat.lt_of_le_of_lt (Nat.le_add_right j k) hj)
    rw [if_pos (Nat.add_comm j k ▸ hj)] at this
    exact this.symm
  unfold rootOf
  by_cases hd : z % p = 0
  · rw [if_pos hd]
    exact Nat.le_antisymm (Nat.le_of_not_lt fun h => kmin p hp h (rot_div hz4 hp hpz per hd)) hpk
  · rw [if_neg hd]
    refine Nat.le_antisymm hkz (Nat.le_of_not_lt fun h => ?_)
    rcases mod_cases ⟨z, Nat.lt_succ_of_le hz4⟩ ⟨p, Nat.lt_succ_of_le (Nat.le_trans hpz hz4)⟩ ⟨k, Nat.lt_succ_of_le (Nat.le_trans hkz hz4)⟩ hp hpk h hd with ⟨h1, h2, h3⟩ | ⟨h1, h2, h3⟩
    · have e1 : z = 3 := congrArg Fin.val h1
      have e2 : p = 2 := congrArg Fin.val h2
      have e3 : k = 2 := congrArg Fin.val h3
      subst e1 e2 e3
      refine least 1 (by decide) (by decide) fun j hj => ?_
      match j, hj with
      | 0, _ => exact rot 1 (by decide)
      | 1, _ => exact rot 2 (by decide)
    · have e1 : z = 4 := congrArg Fin.val h1
      have e2 : p = 3 := congrArg Fin.val h2
      have e3 : k = 3 := congrArg Fin.val h3
      subst e1 e2 e3
      refine least 1 (by decide) (by decide) fun j hj => ?_
      match j, hj with
      | 0, _ => exact rot 1 (by decide)
      | 1, _ => exact rot 2 (by decide)
      | 2, _ => exact rot 3 (by decide)
theorem occ_two {SO : Str} {k : Nat} : Occ (SO ++ SO) SO k ↔ k ≤ SO.length ∧ Rot (fun j => ch SO j) SO.length k := by
  have hl : (SO ++ SO).length = SO.length + SO.length := Str.length_append ..
  unfold Occ Rot
  rw [hl]
  simp only [ch_app]
  exact ⟨fun ⟨h1, h2⟩ => ⟨Nat.le_of_add_le_add_right h1, h2⟩, fun ⟨h1, h2⟩ => ⟨Nat.add_le_add_right h1 _, h2⟩⟩
/-- the root -/
theorem root_all {SO : Str} (hs1 : 1 ≤ SO.length) (hs2 : SO.length ≤ 4) (v : Value) (hv : ToldV (SO ++ SO) SO 1 true (fun _ => false) v) :
    ∃ tn, v = .int (rootOf SO.length (SO.length - bd (fun j => ch SO j) (SO.length - 1)) : Nat) tn := by
  obtain ⟨d, hd0, hd1, per⟩ := bd_is (fun j => ch SO j) (SO.length - 1)
  rw [Nat.sub_add_cancel hs1] at hd1
  have ep : SO.length - bd (fun j => ch SO j) (SO.length - 1) = d := Nat.sub_eq_of_eq_add hd1.symm
  have hfull : Occ (SO ++ SO) SO SO.length := occ_two.mpr ⟨Nat.le_refl _, fun j hj => by rw [if_neg (Nat.not_lt_of_le (Nat.le_add_right _ _)), Nat.add_sub_cancel_left]⟩
  have key : ∃ k r, occ1 (SO ++ SO) SO 1 = k :: r ∧ k = rootOf SO.length (SO.length - bd (fun j => ch SO j) (SO.length - 1)) := by
    rcases occ1_cases (SO ++ SO) SO 1 with ⟨_, h⟩ | ⟨k, r, h1, h2, h3, h4⟩
    · exact absurd hfull (h _ hs1)
    · refine ⟨k, r, h1, ?_⟩
      obtain ⟨hk1, hk2⟩ := occ_two.mp h3
      rw [ep]
      refine root_core hs2 hd0 (hd1 ▸ Nat.le_add_right d _) (fun j hj => per j ?_) (fun q hq1 hq2 hall => ?_) h2 hk1 hk2 (fun q hq1 hq2 hr => h4 q hq1 hq2 (occ_two.mpr ⟨Nat.le_trans (Nat.le_of_lt hq2) hk1, hr⟩))
      · rw [← hd1, Nat.add_comm] at hj
        exact Nat.lt_of_add_lt_add_left hj
      · obtain ⟨b, hb⟩ : ∃ b, q + b = SO.length := ⟨SO.length - q, Nat.add_sub_cancel' (Nat.le_trans (Nat.le_of_lt hq2) (hd1 ▸ Nat.le_add_right d _))⟩
        have hm := bd_max (c := fun j => ch SO j) (i := SO.length - 1) (k := b) ⟨q, hq1, by rw [hb, Nat.sub_add_cancel hs1], fun j hj => hall j (by rw [← hb, Nat.add_comm]; exact Nat.add_lt_add_left hj q)⟩
        omega
  obtain ⟨k, r, ho, hk⟩ := key
  have ho' : occ1 (SO ++ SO) SO (1 : Int) = k :: r := ho
  rw [← hk]
  cases hv with
  | val np tn hmid _ _ =>
    rcases hmid with ⟨r2, h⟩ | ⟨h, _, _⟩
    · rw [ho'] at h
      injection h with h _
      exact ⟨tn, by rw [h]⟩
    · rw [ho'] at h; cases h
  | msg z tn hmsg =>
    cases hmsg with
    | eof h _ => rw [ho'] at h; cases h
    | bar np j _ _ _ _ hS _ => cases hS
end Mine
end
section -- MChr
theorem Mine.rstMChr : True := by
  w_top off
  trivial
open PySem PySem.W PyProof PyProof.Rows PySem.Calls PySem.Builtin PySem.Builtin.Str PySem.StrLaws
set_option Elab.async false
set_option maxRecDepth 100000
namespace Mine
noncomputable def Sgn (c : Nat) : Prop := c = 97 ∨ c = 98 ∨ c = 10 ∨ c = 33
theorem sg_fin : ∀ r : Fin 5, ∀ c ∈ (Txt.item (Str.ofString "aab\n!") (r.1 : Int)).cps.toList, c = 97 ∨ c = 98 ∨ c = 10 ∨ c = 33 := by decide
theorem sg_sgn (x : Int) : ∀ c ∈ (sg x).cps.toList, Sgn c := by
  have h1 := fmod_lo x (n := 5) (by decide)
  have h2 := fmod_hi x (n := 5) (by decide)
  unfold sg Sgn
  generalize Int.fmod x 5 = r at h1 h2
  obtain ⟨n, rfl⟩ := Int.eq_ofNat_of_zero_le h1
  exact sg_fin ⟨n, Int.ofNat_lt.mp h2⟩
theorem join_mem : ∀ (l : List Str) (c : Nat), c ∈ (Str.join (Str.ofString "") l).cps.toList → ∃ t ∈ l, c ∈ t.cps.toList
  | [], c, h => by cases h
  | [x], c, h => ⟨x, .head _, h⟩
  | x :: y :: r, c, h => by
    have h2 : c ∈ ((x.cps ++ (Str.ofString "").cps) ++ (Str.join (Str.ofString "") (y :: r)).cps).toList := h
    rw [Array.toList_append, Array.toList_append, List.mem_append, List.mem_append] at h2
    rcases h2 with (h2 | h2) | h2
    · exact ⟨x, .head _, h2⟩
    · cases h2
    · obtain ⟨t, ht, hc⟩ := join_mem (y :: r) c h2
      exact ⟨t, .tail _ ht, hc⟩
theorem tx_sgn {TX : Str} {ns : List Int} (h : TX = Txt.join (Str.ofString "") (ns.map sg)) : ∀ c ∈ TX.cps.toList, Sgn c := by
  intro c hc
  rw [h] at hc
  have hc2 : c ∈ (Str.join (Str.ofString "") (ns.map sg)).cps.toList := by
    rw [← glued_eq_join]
    exact hc
  obtain ⟨t, ht, hc3⟩ := join_mem _ c hc2
  obtain ⟨x, _, rfl⟩ := List.mem_map.mp ht
  exact sg_sgn x c hc3
theorem so_sgn {TX SO : Str} {st d : Nat} (hX : ∀ c ∈ TX.cps.toList, Sgn c) (hst : st < TX.length) (h : SO = Txt.slice (TX ++ Str.ofString "ab") (some (st : Int)) (some ((st + 1 + d : Nat) : Int))) : ∀ c ∈ SO.cps.toList, Sgn c := by
  intro c hc
  have hl : (TX ++ Str.ofString "ab").length = TX.length + (Str.ofString "ab").length := Str.length_append ..
  rw [h, slice_any (by omega) (by omega)] at hc
  have h1 : c ∈ (List.drop st (TX ++ Str.ofString "ab").cps.toList) := List.mem_of_mem_take hc
  have h2 : c ∈ (TX.cps ++ (Str.ofString "ab").cps).toList := List.mem_of_mem_drop h1
  rw [Array.toList_append, List.mem_append] at h2
  rcases h2 with h2 | h2
  · exact hX c h2
  · have e : (Str.ofString "ab").cps.toList = [97, 98] := by decide
    rw [e] at h2
    simp only [List.mem_cons, List.mem_nil_iff, or_false] at h2
    exact h2.elim .inl fun h => .inr (.inl h)
theorem sgn_small {x : Str} (h : ∀ c ∈ x.cps.toList, Sgn c) : ∀ c ∈ x.cps.toList, c < 16 ^ 8 := fun c hc => by
  rcases h c hc with rfl | rfl | rfl | rfl <;> decide
theorem sgn_bar {x : Str} (h : ∀ c ∈ x.cps.toList, Sgn c) : ∀ j, j < x.length → ch x j ≠ 124 := fun j hj e => by
  have hm : ch x j ∈ x.cps.toList := by
    unfold ch
    have hj' : j < x.cps.size := hj
    rw [Array.getD_eq_getD_getElem?, Array.getElem?_eq_getElem hj', Array.mem_toList_iff]
    exact Array.getElem_mem hj'
  have := h _ hm
  rw [e] at this
  rcases this with h | h | h | h <;> cases h
end Mine
end
section -- LawAll
theorem Mine.rstLawAll : True := by
  w_top off
  trivial
open PySem PySem.W PyProof.Rows PySem.Calls PySem.Builtin.Str PyProof
set_option Elab.async false
set_option maxRecDepth 100000
set_option maxHeartbeats 2000000
set_option linter.unusedVariables false
namespace Mine
section
variable {w : World} {mean : ExcName → Option Value} {mg mb : Str → Option Value} {g0 h1 : Heap} {L fa sc : Addr} {s : Shared} {vs0 : List Value} {ns0 : List Int} {Q : Flow → Shared → Prop} {E : Value → Shared → Prop}
  {nm qn : Str} {params : Arguments} {body : List Stmt} {scope : Scope} {dV kV doc pm ct oc : Value} {an od : Option Addr} {osl : Array (Option Value)}
theorem lawM_of {g h : Heap} {M : Str → Option Value} {fd : Addr} {SO : Str} {tso : Tok} (F : Fr g L h M) (e1 : M (Str.ofString "finds") = some (.ref fd)) (e2 : M (Str.ofString "sought") = some (.str SO tso)) (e3 : M (Str.ofString "script") = some (.ref sc)) : Fr g L h (lawM fd sc SO tso M) := by
  refine fr_congr F fun y => ?_
  unfold lawM
  by_cases h1 : y = Str.ofString "finds"
  · rw [if_pos h1, h1]; exact e1
  · rw [if_neg h1]
    by_cases h2 : y = Str.ofString "sought"
    · rw [if_pos h2, h2]; exact e2
    · rw [if_neg h2]
      by_cases h3 : y = Str.ofString "script"
      · rw [if_pos h3, h3]; exact e3
      · rw [if_neg h3]
theorem news_front {g h : Heap} {x q1 q2 q3 q4 q5 q6 q7 : Addr × Obj} (N : News g L h [q1, q2, q3, q4, q5, q6, x, q7]) : News g L h [x, q1, q2, q3, q4, q5, q6, q7] := fun q hq => N q (by
  simp only [List.mem_cons, List.mem_nil_iff, or_false] at hq ⊢
  rcases hq with h | h | h | h | h | h | h | h <;> simp [h])
theorem law_all {o1 o2 o3 : Obj} {tk0 : Nat} (hb : LawFn w nm qn params body scope dV kV doc pm ct oc an od osl)
  (B : Below callerA g0 [] g0) (X : (Mine.hd.heap_39 w.params).In g0) (T : Top topProg looseX mean mg mb g0) (C105 : CodeHd g0 105 103) (CB : CodeHd g0 40 36)
  (hsc : g0.IsList sc vs0.toArray) (hI : IntsAre vs0 ns0) (hlen : ns0.length ≤ 63)
  (hE : PassesOwn (model Challenge.rw_nb0185_01.row.prog w) (lawA nm scope L fa) (envOfC nm scope L fa (.ref 105)) E)
  (F : Fr g0 L h1 (fun y => if y = Str.ofString "script" then some (.ref sc) else none))
  (N : News g0 L h1 [(L + 1 + 1 + 1, o3), (L + 1 + 1, o2), (L + 1, o1), (36, tabObj #[]), (103, tabObj #[])])
  (d3 : o3.data = .cell none) (d2 : o2.data = .cell none) (d1 : o1.data = .cell none) (hL1 : @LT.lt Nat _ 36 L) (hL2 : @LT.lt Nat _ 103 L)
  (done : ∀ m' h' tk ps' qs nx, Fr g0 L h' m' → News g0 L h' ((36, tabObj ps') :: (103, tabObj qs) :: nx) → Q (.ret (.bool true)) { s with heap := h', toks := tk }) :
  wpAny (model Challenge.rw_nb0185_01.row.prog w) (lawA nm scope L fa) (execs body (envOfC nm scope L fa (.ref 105))) Q E { s with heap := h1, toks := tk0 } := by
  refine law_1 (s := { s with toks := tk0 }) hb B X T hsc hI hlen F N ?_
  rintro s2 ⟨a, vs, n, h2, tk2, rfl, F2, N2, I2, lt2⟩
  generalize hns : (if ns0 = [] then [0] else ns0.take 20) = ns at I2
  have hl : ns.length ≤ 20 := by
    rw [← hns]
    split
    · simp
    · rw [List.length_take]; omega
  have hl1 : 0 < ns.length := by
    rw [← hns]
    split
    · simp
    · rename_i h
      rw [List.length_take]
      have := List.length_pos_iff.mpr h
      omega
  have ha : @LT.lt Nat _ (L + 1 + 1 + 1) a := lt2 (L + 1 + 1 + 1, o3) (.head _)
  have ha2 : @LT.lt Nat _ 103 a := by omega
  refine law_2 (s := { s with toks := tk2 }) hb B X T F2 N2 I2 hl hl1 d3 hL1 hL2 ha ?_
  intro TX tt o3' h3 tk3 hTX hTl d3' F3 N3
  have hTs := tx_sgn hTX
  refine law_3 (s := { s with toks := tk3 }) hb B X T F3 N3 I2 hl hl1 d3' hTl d1 d2 hL1 hL2 ha ?_
  intro st d SO tst tso o2' h4 tk4 tz hst hd hSO hs1 hs2 d2' F4 N4
  have hSs := so_sgn hTs hst hSO
  have hT20 : TX.length ≤ 20 := by omega
  refine law_4 (s := { s with toks := tk4 }) hb B X T F4 N4 d3' hT20 d1 d2' hs1 hs2 hL1 hL2 ha ?_
  intro D vsD nD o1' h5 tk5 ID d1' hneD F5 N5
  refine law_5 (s := { s with toks := tk5 }) hb B X T F5 N5 d3' hT20 d1' d2' hs1 hs2 ID (tabOf_len SO TX) ?_
  intro fd vsF nF h6 tk6 IF hnefd F6 N6
  have hfs := finds_iff (SO := SO) (sgn_bar hTs)
  have hfl : (findsOf (tabOf SO TX) SO.length TX.length).length ≤ 20 := by
    refine Nat.le_trans (List.length_filter_le _ _) ?_
    rw [rangeKs_length]
    omega
  have hpwF : (findsOf (tabOf SO TX) SO.length TX.length).Pairwise (· < ·) := List.Pairwise.filter _ (rangeKs_lt _)
  change IntsAre vsF (findsOf (tabOf SO TX) SO.length TX.length) at IF
  change ∀ k : Int, k ∈ findsOf (tabOf SO TX) SO.length TX.length ↔ _ at hfs
  generalize findsOf (tabOf SO TX) SO.length TX.length = finds at IF hfs hfl hpwF
  have e1 : @Ne Nat 103 fd := hnefd (103, tabObj #[]) (.tail _ (.tail _ (.tail _ (.tail _ (.tail _ (.tail _ (.head _)))))))
  have e1' : @Ne Nat fd 36 := Ne.symm (hnefd (36, tabObj #[]) (.tail _ (.tail _ (.tail _ (.tail _ (.tail _ (.head _)))))))
  have e2 : @Ne Nat 103 D := hneD (103, tabObj #[]) (.tail _ (.tail _ (.tail _ (.tail _ (.tail _ (.head _))))))
  have e2' : @Ne Nat D 36 := Ne.symm (hneD (36, tabObj #[]) (.tail _ (.tail _ (.tail _ (.tail _ (.head _))))))
  have e3 : @Ne Nat 103 a := Nat.ne_of_lt ha2
  have e3' : @Ne Nat a 36 := by omega
  refine law_6 (tab := []) (finds := []) (s := { s with toks := tk6 }) hb B X T C105 F6 N6 d3' hT20 d1' d2' hs1 hs2 hL1 hL2 e1 e2 e3 ?_
  intro Dp vsP nP pl c1 h7 tk7 IP hperm hpw ltP F7 N7
  have e4 : @Ne Nat 103 Dp := Nat.ne_of_lt (ltP (103, tabObj #[]) (.tail _ (.tail _ (.tail _ (.tail _ (.tail _ (.tail _ (.tail _ (.head _)))))))))
  have hpl := pl_len hperm
  have hpr := pl_range hperm
  refine law_7 (s := { s with toks := tk7 }) hb B X T C105 F7 N7 d3' hT20 d2' hs1 hs2 hL1 hL2 e1 e2 e3 e4 IP hpl hpr (fun i j hij hj h => lt_left (pl_mono hperm hpw hij hj) h) ?_
  intro fi tfi c2 h8 tk8 hfi hf1 hf2 F8 N8
  refine law_8 (s := { s with toks := tk8 }) hb B X T C105 F8 N8 d3' hT20 d2' hs1 hs2 hL1 hL2 e1 e2 e3 e4 IP hpl hpr (fun i j hij hj h => lt_right (pl_mono hperm hpw hij hj) h) ?_
  intro be tbe c3 h9 tk9 hbe hb1 hb2 F9 N9
  refine law_9 (tz := tz) (s := { s with toks := tk9 }) hb B X T F9 N9 d3' hT20 IP hpl IF hfi hbe (fun ms hm ho => seg_finds hperm hbe hf1 hf2 hb1 hb2 hpwF hfs hs1 hm ho) ?_
  intro h10 tk10 F10 N10
  have F10' := lawM_of (sc := sc) (fd := fd) (SO := SO) (tso := tso) F10 rfl rfl rfl
  refine law_10 (finds := finds) (s := { s with toks := tk10 }) hb B X T F10' N10 d3' hT20 d1' d2' hs1 hs2 hE ID (tabOf_len SO TX) (fun j hj => tabOf_head hj) ?_
  intro Dl vsL nL laps M1 h11 tk11 IL hll hlaps ltL F11 N11
  have hfb : ∀ k ∈ finds, 0 ≤ k ∧ k ≤ TX.length := fun k hk => by
    obtain ⟨i, rfl, ho⟩ := (hfs k).mp hk
    have := ho.1
    omega
  refine law_11 (TX := TX) (tt := tt) (s := { s with toks := tk11 }) hb B X T F11 N11 d2' hs1 hs2 hE IL hll IF hfl (fun k hk => ⟨(hfb k hk).1, by have := (hfb k hk).2; omega⟩) (laps_hold hpwF (fun k hk => (hfs k).mp hk) hlaps) ?_
  intro M2 h12 tk12 F12 N12
  refine law_12 (tt := tt) (s := { s with toks := tk12 }) hb B X T F12 N12 d1' d2' hs1 hs2 ID (tabOf_len SO TX) (fun j hj => tabOf_head hj) ?_
  intro M3 tr h13 tk13 F13 N13
  refine law_13 (TX := TX) (tt := tt) (tz := tz) (s := { s with toks := tk13 }) hb B X T CB F13 (news_front N13) hs1 hs2 hL1 e1' e2' e3' (sgn_small hSs) (root_all hs1 hs2) ?_
  intro M4 h14 tk14 ps xs I14 l14 F14 N14
  refine law_14 (s := { s with toks := tk14 }) hb B X T hsc hI hlen F14 N14 ?_
  intro M5 h15 tk15 fs ofs S nS b hfz hnS e36 F15 N15
  refine law_15 (s := { s with toks := tk15 }) hb B X T CB hE hfz hnS e36 hL1 e1' e2' e3' F15 N15 I14 l14 d3' hT20 hs1 hs2 (sgn_small hSs) (sgn_small hTs) IF hfl (fun k hk => (hfb k hk).2) (same_all hpwF hfs) ?_
  intro m' h16 tk16 ps' nx F16 N16
  exact done m' h16 tk16 ps' _ nx F16 N16
end
end Mine
end
open PySem PySem.W PyProof.Rows PySem.Calls PySem.Builtin.Str PyProof
set_option Elab.async false
set_option maxRecDepth 100000
set_option maxHeartbeats 8000000
theorem PySem.Challenge.cw_nb0185_01_holds : PySem.Challenge.rw_nb0185_01.Holds := by
  k_with_none
  refine Mine.hd ?_
  k_go0
  (all_goals try k_fold)
  refine' Mine.law_all ?hb ?B ?X ?T ?C105 ?CB ?hsc ?hI ?hlen ?hE ?F ?N ?d3 ?d2 ?d1 ?hL1 ?hL2 ?done
  case B => assumption
  case X => assumption
  case T => assumption
  case C105 => assumption
  case CB => assumption
  case hsc => assumption
  case hI => assumption
  case hlen => omega
  case hE => passes_own
  case F => assumption
  case N => assumption
  case d3 => assumption
  case d2 => assumption
  case d1 => assumption
  case hL1 => omega
  case hL2 => omega
  case done =>
    intro m' h' tk ps' qs nx F9 N9
    refine ⟨?_, GrownAt.of N9 (.head _), GrownAt.of N9 (.tail _ (.head _)), True.intro⟩
    k_steps
  case hb => exact rfl
