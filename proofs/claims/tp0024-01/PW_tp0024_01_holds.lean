import PyProof.Rows.All
import Wide.All
import OpenK.AllK
import Wide.FinOn
import PySem.Challenge.RW_tp0024_01
set_option Elab.async false
set_option maxRecDepth 100000
set_option maxHeartbeats 8000000
set_option compiler.extract_closed false
section
open PySem PySem.W PyProof.Rows
open_top hd for PySem.Challenge.rw_tp0024_01
end
section
open PySem PySem.W PyProof.Rows PySem.Spec PySem.Calls
set_option Elab.async false
set_option maxRecDepth 100000
set_option maxHeartbeats 8000000
namespace Mine
noncomputable abbrev PG : Program := PySem.Challenge.rw_tp0024_01.row.prog
noncomputable abbrev LO : List Str := looseW hd.view_39
      [Str.ofString "ONE_THIRD", Str.ofString "ONE_SIXTH", Str.ofString "TWO_THIRD", Str.ofString "tspecials",
        Str.ofString "_name_disallowed_re", Str.ofString "_value_disallowed_re", Str.ofString "_formatparam"]
/-- a call of the def f: whatever the frame and the ledger; D frames and U units are wanted -/
abbrev Cl (w : World) (mean : ExcName → Option Value) (mg mb : Str → Option Value) (f : Addr) (D U : Nat) (vs : List Value) (kw : List (Str × Value)) (news : List (Addr × Obj)) (pre : Prop)
    (Ret : Heap → Heap → Addr → Heap → Value → Prop) : Prop :=
  ∀ (dp un : Nat) (gd : Option (List Code)) (cn : Str) (cs : Scope) (a : Addr) (ccd : Value) (cl : List (Str × Addr)) (outer : List Env) (A₀ : Around) (base h₀ : Heap) (L : Addr) (m : Str → Option Value) (s : Shared) (Q E : Value → Shared → Prop),
    Below A₀ base outer h₀ → Fr h₀ L s.heap m → (hd.heap_39 w.params).In h₀ → News h₀ L s.heap news → Top hd.view_39 LO mean mg mb h₀ → cs.kind = .function →
      pre → dp + D < recursionLimit → un + U < cLine →
      (∀ (v : Value) (h' : Heap) (tk' : Nat), Fr h₀ L h' m → Ret s.heap h₀ L h' v → Q v { s with heap := h', toks := tk' }) →
      wpAny (model PG w) (ktrTop dp un gd cn cs L a ccd cl outer) (call (.ref f) vs kw) Q E s
theorem fill : (fun (_ : OpenLaw) (_ : Params → Frag) => True) PySem.Challenge.rw_tp0024_01 hd.heap_39 := by
  k_fill
  trivial
end Mine

end
section
set_option Elab.async false
namespace Mine
theorem sub_a {N n : Nat} (h : n + 1 ≤ N) : N - (n + 1) + 1 = N - n := Nat.sub_add_cancel (Nat.sub_pos_of_lt h)
theorem sub_b {N k : Nat} (h : k + 1 ≤ N) : N - (N - k - 1) = k + 1 := Nat.sub_sub_self h
theorem sub_c {N k : Nat} (h : k + 1 ≤ N) : N - 1 - (N - k - 1) = k := (Nat.sub_right_comm ..).trans (congrArg (· - 1) (sub_b h))
theorem sub_d {N n : Nat} : N - 1 - n = N - (n + 1) := Nat.sub_right_comm ..
theorem sub_e {n i k : Nat} (h : n - i = k + 1) : n - (i + 1) = k := congrArg Nat.pred h
theorem one_more {n : Nat} (h : 1 ≤ n) : ∃ k, n = k + 1 := ⟨n - 1, (Nat.sub_add_cancel h).symm⟩
theorem three_i {x : Int} (h : 0 ≤ x ∧ x < 3) : x = 0 ∨ x = 1 ∨ x = 2 := by
  obtain ⟨n, rfl⟩ := Int.eq_ofNat_of_zero_le h.1
  exact (by decide : ∀ n : Nat, n < 3 → ((n : Int) = 0 ∨ (n : Int) = 1 ∨ (n : Int) = 2)) n (Int.ofNat_lt.mp h.2)
theorem odds_abs {o0 o1 : Int} (a : 1 ≤ o0) (b : o0 ≤ 5) (c : 1 ≤ o1) (d : o1 ≤ 5) : (o0 + o1).natAbs < 2 ^ 64 := by omega
theorem odds_one {o0 o1 : Int} (a : 1 ≤ o0) (c : 1 ≤ o1) : 1 ≤ o0 + o1 := Int.le_trans a (Int.le_add_of_nonneg_right (Int.le_trans (by decide) c))
end Mine

end
section
open PySem PySem.W PyProof.Rows PySem.Spec PySem.Calls
set_option Elab.async false
set_option maxRecDepth 100000
set_option maxHeartbeats 8000000
namespace Mine
theorem plainAttrs_pat : PlainAttrs "re.Pattern" :=
  ⟨⟨"object.__getattribute__", by rw [typeLookup_type, builtinLookup_eq_fast]; kernel_rfl, by decide +kernel⟩, by rw [typeLookup_type, builtinLookup_eq_fast]; kernel_rfl⟩
theorem slot_pat_search : Slot "re.Pattern" "search" "re.Pattern.search" :=
  .of (owner := "re.Pattern") (n := "search") (by rw [typeLookup_type, builtinLookup_eq_fast]; kernel_rfl) (by decide +kernel) (by decide +kernel) (by decide +kernel)
    (by first | exact .inl (by decide +kernel) | exact .inr (by decide +kernel)) (by rw [isSubtype_type]; kernel_rfl)
theorem type_pat_search : typeOf (.builtin "re.Pattern.search") = pure (.type "method_descriptor") := by show builtinType _ = _; rw [builtinType_eq_fast]; kernel_rfl
theorem entry_pat_search : entryFor table "re.Pattern.search" = some Builtin.«re.Pattern.search» := entryFor_of_tree (by kernel_rfl)
theorem args_pat_search (a b : Value) : argsOk "re.Pattern.search" ⟨[a, b], []⟩ := by
  unfold argsOk
  kernel_rfl

open PySem.Sre
theorem admitted_none (m : M) (P : Nat → Prop) (hP : ∀ c, P c → ∀ seen, ∃ seen', inSet m.code c m.code.size 5 true seen = .ok (false, seen'))
    (ht : ∀ s, s < m.lim → P (m.text.getD s 0)) : ∀ fuel s seen, ∃ seen', M.admitted m fuel s seen = .ok (none, seen')
  | 0, s, seen => ⟨seen, rfl⟩
  | fuel + 1, s, seen => by
    unfold M.admitted
    by_cases h : s ≥ m.lim
    · rw [if_pos h]; exact ⟨_, rfl⟩
    · rw [if_neg h]
      obtain ⟨seen', e⟩ := hP _ (ht s (by omega)) seen
      rw [e]
      exact admitted_none m P hP ht fuel (s + 1) seen'

noncomputable def patName : Array Nat := #[14, 10, 4, 1, 1, 22, 0, 31, 16, 127, 0, 13, 7, 22, 0, 31, 16, 127, 0, 1]
noncomputable def patValue : Array Nat := #[14, 14, 4, 1, 1, 9, 4294966783, 0, 0, 2147483648, 0, 0, 0, 0, 0, 13, 11, 9, 4294966783, 0, 0, 2147483648, 0, 0, 0, 0, 0, 1]
def Fine (c : Nat) : Prop := 32 ≤ c ∧ c < 127
theorem fine_name (c : Nat) (h : Fine c) (seen : Sre.Seen) : ∃ seen', inSet patName c patName.size 5 true seen = .ok (false, seen') := by
  have h1 : (decide (0 ≤ c) && decide (c ≤ 31)) = false := by have := h.1; rw [Bool.and_eq_false_iff]; right; exact decide_eq_false (by omega)
  have h2 : (c == 127) = false := by have := h.2; simp; omega
  refine ⟨(((seen.add 22).add 16).add 0), ?_⟩
  have e0 : patName.getD (5 + 0) 0 = 22 := by decide +kernel
  have e1 : patName.getD (5 + 1) 0 = 0 := by decide +kernel
  have e2 : patName.getD (5 + 2) 0 = 31 := by decide +kernel
  have e3 : patName.getD (8 + 0) 0 = 16 := by decide +kernel
  have e4 : patName.getD (8 + 1) 0 = 127 := by decide +kernel
  have e5 : patName.getD (10 + 0) 0 = 0 := by decide +kernel
  show inSet patName c (17 + 1 + 1 + 1) 5 true seen = _
  rw [inSet]
  simp only [e0]
  rw [show ops[22]? = some Op.RANGE from rfl]
  simp only [e1, e2, h1, Bool.false_eq_true, if_false]
  rw [inSet]
  simp only [e3]
  rw [show ops[16]? = some Op.LITERAL from rfl]
  simp only [e4, h2, Bool.false_eq_true, if_false]
  rw [inSet]
  simp only [e5]
  rw [show ops[0]? = some Op.FAILURE from rfl]
  rfl
theorem bits_fine : ∀ c : Nat, c < 127 → 32 ≤ c → (patValue.getD (5 + (1 + c / 32)) 0).testBit (c % 32) = false := by decide +kernel
theorem fine_value (c : Nat) (h : Fine c) (seen : Sre.Seen) : ∃ seen', inSet patValue c patValue.size 5 true seen = .ok (false, seen') := by
  have h1 := bits_fine c h.2 h.1
  refine ⟨((seen.add 9).add 0), ?_⟩
  have e0 : patValue.getD (5 + 0) 0 = 9 := by decide +kernel
  have e1 : patValue.getD (14 + 0) 0 = 0 := by decide +kernel
  show inSet patValue c (26 + 1 + 1) 5 true seen = _
  rw [inSet]
  simp only [e0]
  rw [show ops[9]? = some Op.CHARSET from rfl]
  simp only [h1, Bool.and_false, Bool.false_eq_true, if_false]
  rw [inSet]
  simp only [e1]
  rw [show ops[0]? = some Op.FAILURE from rfl]
  rfl
theorem attempt_none (m : M) (first : Bool) (hset : m.hasFirstSet = true) (hP : ∀ c, Fine c → ∀ seen, ∃ seen', inSet m.code c m.code.size 5 true seen = .ok (false, seen'))
    (ht : ∀ s, s < m.lim → Fine (m.text.getD s 0)) : ∃ seen', m.attemptFrom 0 first = M.say { m with seen := seen' } false := by
  obtain ⟨seen', e⟩ := admitted_none m Fine hP ht (m.lim + 1 - 0) 0 m.seen
  refine ⟨seen', ?_⟩
  unfold M.attemptFrom
  rw [hset]
  simp only [Bool.not_true, Bool.false_eq_true, if_false]
  rw [e]
theorem search_none (code : Array Nat) (hc : code = patName ∨ code = patValue) (text : Array Nat) (ht : ∀ s, s < text.size → Fine (text.getD s 0)) (lim : Nat) (hl : lim ≤ text.size) :
    ∃ m : M, forSearch code text 0 0 lim false = m ∧ m.answer = some false ∧ m.frames = [] ∧ m.outcome = none := by
  have hin : ∀ c, Fine c → ∀ seen, ∃ seen', inSet code c code.size 5 true seen = .ok (false, seen') := by
    intro c h seen
    rcases hc with rfl | rfl
    · exact fine_name c h seen
    · exact fine_value c h seen
  have hh : (header code).1 = 1 ∧ (∀ m : M, m.code = code → m.hasFirstSet = true) := by
    rcases hc with rfl | rfl
    · exact ⟨rfl, fun m e => by unfold M.hasFirstSet; rw [e]; rfl⟩
    · exact ⟨rfl, fun m e => by unfold M.hasFirstSet; rw [e]; rfl⟩
  obtain ⟨h1, h4⟩ := hh
  refine ⟨_, rfl, ?_⟩
  unfold forSearch
  simp only [h1]
  by_cases h0 : (decide (0 > lim) || decide (lim - 0 < 1)) = true
  · rw [if_pos h0]
    exact ⟨rfl, rfl, rfl⟩
  · rw [if_neg h0]
    refine (?_ : ∀ m : M, m.code = code → m.text = text → m.lim = lim → m.frames = [] → m.outcome = none → (m.attemptFrom 0 true).answer = some false ∧ (m.attemptFrom 0 true).frames = [] ∧ (m.attemptFrom 0 true).outcome = none) _ rfl rfl rfl rfl rfl
    intro m ec et el ef eo
    obtain ⟨seen', e⟩ := attempt_none m true (h4 m ec) (by rw [ec]; exact hin) (by rw [et, el]; exact fun s hs => ht s (by omega))
    rw [e]
    exact ⟨rfl, ef, eo⟩
open PySem.Builtin.Re
theorem reDrive_done (m : M) (h1 : m.answer = some false) (h2 : m.frames = []) (h3 : m.outcome = none) (n : Nat) : ∃ m', reDrive (n + 1) m = pure m' ∧ m'.outcome = some .failed := by
  have hs : m.step = { m with outcome := some .failed } := by
    unfold M.step
    rw [h3, h1, h2]
    rfl
  have hr : m.runFor reTurnSteps = { m with outcome := some .failed } := by
    show M.runFor (2 + 1 + 1) m = _
    rw [M.runFor]
    rw [h3]
    simp only [Option.isSome_none, Bool.false_eq_true, if_false]
    rw [hs, M.runFor]
    rfl
  refine ⟨{ m with outcome := some .failed }, ?_, rfl⟩
  rw [reDrive, hr]
  rfl
section
variable {prog : Program} {w : World} {A : Around} {E : Value → Shared → Prop} {s : Shared}
theorem wp_runToEnd {m : M} (h1 : m.answer = some false) (h2 : m.frames = []) (h3 : m.outcome = none) {Q : Option M → Shared → Prop} (h : Q none s) : wpAny (model prog w) A (reRunToEnd m) Q E s := by
  obtain ⟨m', e, eo⟩ := reDrive_done m h1 h2 h3 (2 ^ 64 - 1)
  unfold reRunToEnd
  rw [show (2 ^ 64 : Nat) = 2 ^ 64 - 1 + 1 from rfl, e]
  refine wpAny_bind (wpAny_pure ?_)
  refine wpAny_bind ?_
  refine wpAny_forIn_list _ (fun _ _ s' => s' = s) _ ?_ ?_ _ _ rfl
  · rintro x rest b s' rfl
    split
    · exact wpAny_bind (wpAny_rule (wpAny_pure rfl))
    · exact wpAny_pure rfl
  · rintro b s' rfl
    rw [eo]
    exact wpAny_pure h
theorem search_meets {pat l : Addr} {o : Obj} {fs : Array Value} {items : Array Value} {x : Str} {t : Tok} (code : Array Nat) (hc : code = patName ∨ code = patValue)
    (hx : ∀ s, s < x.cps.size → Fine (x.cps.getD s 0)) (hf : o.data = .fields fs) (h6 : reRawNat (fs.getD 6 .none) = 0) (h5 : fs.getD 5 .none = .ref l) (h2 : reRawNat (fs.getD 2 .none) = 0) (hcode : (items.map reRawOf).map (·.toNat) = code) :
    MeetsIn prog w (Builtin.«re.Pattern.search» ⟨[.ref pat, .str x t], []⟩) (fun _ R s => s.heap.get? pat = some o ∧ IsTup s.heap l items ∧ R (.ok (.ret .none)) s) :=
  .of_wp fun A R s ⟨ho, hl, h⟩ => by
    obtain ⟨ol, hol, _, n, hdl⟩ := hl
    unfold Builtin.«re.Pattern.search» reTarget
    dsimp only
    refine wpAny_bind (wpAny_bind ?_)
    refine wpAny_of_eq (a := [some (Value.str x t), none, none]) (by rfl) ?_
    dsimp only
    refine wpAny_bind (wpAny_pure ?_)
    refine wpAny_bind (wpAny_pure ?_)
    unfold fieldsOf
    refine wpAny_bind (wpAny_bind (wpAny_load ho ?_))
    rw [hf]
    refine wpAny_pure ?_
    unfold reTextOf asStr?
    refine wpAny_bind (wpAny_bind (wpAny_pure ?_))
    refine wpAny_pure ?_
    dsimp only
    rw [h6]
    rw [if_neg (by decide), if_neg (by decide)]
    unfold reNoCollectionInside
    refine wpAny_bind ?_
    rw [if_neg (by decide)]
    refine wpAny_pure ?_
    rw [h5]
    unfold reRawItems seqItems?
    refine wpAny_bind (wpAny_bind (wpAny_bind (wpAny_load hol ?_)))
    rw [hdl]
    refine wpAny_pure (wpAny_pure (wpAny_pure ?_))
    unfold reAnswer
    have hp0 : min (Int.toNat 0) x.cps.size = 0 := by simp
    simp only [hp0, h2, Option.getD_some, hcode]
    obtain ⟨m, em, m1, m2, m3⟩ := search_none code hc x.cps hx (min (2 ^ 63 - 1 : Int).toNat x.cps.size) (Nat.min_le_right _ _)
    rw [em]
    refine wpAny_bind (wp_runToEnd m1 m2 m3 ?_)
    exact wpAny_pure ⟨_, rfl, h⟩
theorem call_search {pat l : Addr} {o : Obj} {fs : Array Value} {items : Array Value} {x : Str} {t : Tok} (code : Array Nat) (hc : code = patName ∨ code = patValue)
    (hx : ∀ s, s < x.cps.size → Fine (x.cps.getD s 0)) (ht : o.cls = .type "re.Pattern") (hf : o.data = .fields fs) (h6 : reRawNat (fs.getD 6 .none) = 0) (h5 : fs.getD 5 .none = .ref l) (h2 : reRawNat (fs.getD 2 .none) = 0) (hcode : (items.map reRawOf).map (·.toNat) = code)
    (ho : s.heap.get? pat = some o) (hl : IsTup s.heap l items) {Q : Value → Shared → Prop} (h : Q .none s) : wpAny (model prog w) A (call (.builtin "re.Pattern.search") [.ref pat, .str x t]) Q E s :=
  call_meetsIn slot_pat_search ⟨o, ho, ht⟩ entry_pat_search (args_pat_search _ _) (search_meets code hc hx hf h6 h5 h2 hcode) ⟨ho, hl, h⟩
theorem method_search {pat : Addr} {o : Obj} {pl : Sem Bool} (ho : s.heap.get? pat = some o) (ht : o.cls = .type "re.Pattern") (hn : o.dict = none) {Q : Value × List Value → Shared → Prop}
    (h : Q (.builtin "re.Pattern.search", [.ref pat]) s) : wpAny (model prog w) A (getMethod (.ref pat) "search" pl) Q E s :=
  getMethod_builtin ⟨o, ho, ht⟩ plainAttrs_pat slot_pat_search type_pat_search (fun a e => by cases e; exact ⟨o, ho, hn⟩) h
variable {h₀ : Heap} {L : Addr} {m : Str → Option Value}
noncomputable def itemsName : Array Value := #[Value.int 14 0, Value.int 10 0, Value.int 4 0, Value.int 1 0, Value.int 1 0, Value.int 22 0, Value.int 0 0, Value.int 31 0, Value.int 16 0, Value.int 127 0, Value.int 0 0, Value.int 13 0, Value.int 7 0, Value.int 22 0, Value.int 0 0, Value.int 31 0, Value.int 16 0, Value.int 127 0, Value.int 0 0, Value.int 1 0]
noncomputable def itemsValue : Array Value := #[Value.int 14 0, Value.int 14 0, Value.int 4 0, Value.int 1 0, Value.int 1 0, Value.int 9 0, Value.int 4294966783 0, Value.int 0 0, Value.int 0 0, Value.int 2147483648 0, Value.int 0 0, Value.int 0 0, Value.int 0 0, Value.int 0 0, Value.int 0 0, Value.int 13 0, Value.int 11 0, Value.int 9 0, Value.int 4294966783 0, Value.int 0 0, Value.int 0 0, Value.int 2147483648 0, Value.int 0 0, Value.int 0 0, Value.int 0 0, Value.int 0 0, Value.int 0 0, Value.int 1 0]
theorem codeName : (itemsName.map reRawOf).map (·.toNat) = patName := by simp [itemsName, reRawOf, patName]
theorem codeValue : (itemsValue.map reRawOf).map (·.toNat) = patValue := by simp [itemsValue, reRawOf, patValue]
theorem K69 (P : Params) : (hd.heap_39 P).lookup 69 = some ⟨.type "re.Pattern", none, .fields #[Value.str (Str.ofString "[\\x00-\\x1F\\x7F]") 373, Value.int 32 396, Value.int 0 0, Value.none, Value.none, Value.ref 68, Value.int 0 0], #[]⟩ := by rfl
theorem K68 (P : Params) : (hd.heap_39 P).lookup 68 = some ⟨.type "tuple", none, .seq itemsName, #[]⟩ := by rfl
theorem K74 (P : Params) : (hd.heap_39 P).lookup 74 = some ⟨.type "re.Pattern", none, .fields #[Value.str (Str.ofString "[\\x00-\\x08\\x0A-\\x1F\\x7F]") 399, Value.int 32 430, Value.int 0 0, Value.none, Value.none, Value.ref 73, Value.int 0 0], #[]⟩ := by rfl
theorem K73 (P : Params) : (hd.heap_39 P).lookup 73 = some ⟨.type "tuple", none, .seq itemsValue, #[]⟩ := by rfl
def FineStr (x : Str) : Prop := ∀ i, i < x.cps.size → Fine (x.cps.getD i 0)
theorem method_name {pl : Sem Bool} (F : Fr h₀ L s.heap m) (X : (hd.heap_39 w.params).In h₀) {Q : Value × List Value → Shared → Prop} (h : Q (.builtin "re.Pattern.search", [.ref 69]) s) : wpAny (model prog w) A (getMethod (.ref 69) "search" pl) Q E s :=
  method_search ((X.keeps F.keep) _ _ (K69 _)) rfl rfl h
theorem method_value {pl : Sem Bool} (F : Fr h₀ L s.heap m) (X : (hd.heap_39 w.params).In h₀) {Q : Value × List Value → Shared → Prop} (h : Q (.builtin "re.Pattern.search", [.ref 74]) s) : wpAny (model prog w) A (getMethod (.ref 74) "search" pl) Q E s :=
  method_search ((X.keeps F.keep) _ _ (K74 _)) rfl rfl h
theorem search_name {x : Str} {t : Tok} (F : Fr h₀ L s.heap m) (X : (hd.heap_39 w.params).In h₀) (hx : FineStr x) {Q : Value → Shared → Prop} (h : Q .none s) : wpAny (model prog w) A (call (.builtin "re.Pattern.search") [.ref 69, .str x t]) Q E s :=
  call_search (l := 68) patName (.inl rfl) hx rfl rfl rfl rfl rfl (items := itemsName) codeName ((X.keeps F.keep) _ _ (K69 _)) ⟨_, (X.keeps F.keep) _ _ (K68 _), rfl, 0, rfl⟩ h
theorem search_value {x : Str} {t : Tok} (F : Fr h₀ L s.heap m) (X : (hd.heap_39 w.params).In h₀) (hx : FineStr x) {Q : Value → Shared → Prop} (h : Q .none s) : wpAny (model prog w) A (call (.builtin "re.Pattern.search") [.ref 74, .str x t]) Q E s :=
  call_search (l := 73) patValue (.inr rfl) hx rfl rfl rfl rfl rfl (items := itemsValue) codeValue ((X.keeps F.keep) _ _ (K74 _)) ⟨_, (X.keeps F.keep) _ _ (K73 _), rfl, 0, rfl⟩ h
end
end Mine

end
section
open PySem PySem.W PyProof.Rows PySem.Spec PySem.Calls
set_option Elab.async false
set_option maxRecDepth 100000
set_option maxHeartbeats 8000000
namespace Mine
theorem freshConA : True := by
  w_top off
  trivial
theorem fillA : (fun (_ : OpenLaw) (_ : Params → Frag) => True) PySem.Challenge.rw_tp0024_01 hd.heap_39 := by
  k_fill
  trivial
variable (w : World) (mean : ExcName → Option Value) (mg mb : Str → Option Value)
noncomputable def nameOf (p : Int) (g : Bool) : Str := ⟨#[((if g then 65 else 97) + p.fdiv 256).toNat, ((if g then 65 else 97) + (p.fdiv 16).fmod 16).toNat, ((if g then 65 else 97) + p.fmod 16).toNat]⟩
theorem name_c (p : Int) (tp : Tok) (gr : Bool) (news : List (Addr × Obj)) :
    Cl w mean mg mb 214 1 8 [.int p tp, .bool gr] [] news (0 ≤ p ∧ p ≤ 2048) (fun _ h₀ L h' v => (∃ t, v = .str (nameOf p gr) t) ∧ News h₀ L h' news) := by
  dsimp only [Cl]
  intros
  rename_i hret
  have cbI : CbIn 214 := CbIn.mk
  refine wpAny_call ?_
  k_dflt cell_enter
  k_steps
  all_goals (subst_vars; exact hret _ _ _ (by assumption) ⟨⟨_, rfl⟩, by assumption⟩)
local macro_rules | `(tactic| walk_at "getMethod ref") => `(tactic| (k_here; (with_reducible show wpAny _ _ (getMethod (Value.ref _) (Str.ofString "search") _) _ _ _); k_dflt (first | refine method_name (by k_asm) (by k_asm) ?_ | refine method_value (by k_asm) (by k_asm) ?_)))
local macro_rules | `(tactic| walk_at "call builtin:re.Pattern.search") => `(tactic| (k_here; k_dflt (first | refine search_name (by k_asm) (by k_asm) (by assumption) ?_ | refine search_value (by k_asm) (by k_asm) (by assumption) ?_)))
theorem conv_c (self : Addr) (x : Str) (tp : Tok) (b : Bool) (news : List (Addr × Obj)) :
    Cl w mean mg mb 104 1 8 [.ref self, .str x tp] [(Str.ofString "name", .bool b)] news (FineStr x) (fun _ h₀ L h' v => v = .str x tp ∧ News h₀ L h' news) := by
  dsimp only [Cl]
  intros
  rename_i hret
  have cbI : CbIn 104 := CbIn.mk
  refine wpAny_call ?_
  k_dflt cell_enter
  k_steps
  all_goals (exact hret _ _ _ (by assumption) ⟨rfl, by assumption⟩)
theorem conv_k (b : Bool) (self : Addr) (x : Str) (tp : Tok) (news : List (Addr × Obj)) (kw : List (Str × Value)) (hkw : kw = [(Str.ofString "name", .bool b)]) :
    Cl w mean mg mb 104 1 8 [.ref self, .str x tp] kw news (FineStr x) (fun _ h₀ L h' v => v = .str x tp ∧ News h₀ L h' news) := by
  subst hkw
  exact conv_c w mean mg mb self x tp b news
end Mine

end
section
open PySem PySem.W PyProof.Rows PySem.Spec PySem.Calls PyProof.Rows.LCg PyProof.Rows.LCt PyProof.Rows.LCp
set_option Elab.async false
set_option maxRecDepth 100000
set_option maxHeartbeats 8000000
namespace Mine
section
variable {prog : Program} {w : World} {A : Around} {h₀ : Heap} {L : Addr} {m : Str → Option Value} {env : Env} {elt ct : PySem.Expr} {x x₂ : Str} {scope : Scope} {cl : List (Str × Addr)} {s : Shared} {S : List (Addr × Obj) → Prop} {P : Nat → Value → Prop} {Fin : List Value → List (Addr × Obj) → Prop}
theorem rest_ind (n : Nat) (J : Nat → List Value → List (Addr × Obj) → Prop)
    (turn : ∀ i ys news, i < n → J i ys news → ∀ v I oI C oC D m₂ h tk (E' : Value → Shared → Prop), P i v → NsObj oC m₂ → m₂ x = some v → Fr h₀ L h m → News h₀ L h ((I, oI) :: (C, oC) :: (D, lst ys) :: news) → Off3 I C D news → ((@Ne Nat I C) ∧ (@Ne Nat I D) ∧ (@Ne Nat C D)) →
      wpAny (model prog w) A (eval elt (compEnvC scope cl C env)) (CompEnd h₀ L m { s with heap := h, toks := tk } I oI C oC D (lst ys) S (fun y news' => J (i + 1) (ys ++ [y]) news')) E' { s with heap := h, toks := tk })
    (fin : ∀ ys news, J n ys news → Fin ys news) :
    ∀ (k i : Nat) (ys : List Value) (news : List (Addr × Obj)), i + k = n → J i ys news → CompRest prog w A h₀ L m env elt x scope cl s S P Fin k i ys news
  | 0, i, ys, news, e, hJ => CompRest.zero (fin _ _ (by have : i = n := by omega
                                                        subst this; exact hJ))
  | k + 1, i, ys, news, e, hJ => CompRest.succ fun v I oI C oC D m₂ h tk E' a b c d f g q =>
      wpAny_mono (turn i ys news (by omega) hJ v I oI C oC D m₂ h tk E' a b c d f g q) (fun y s' hy => by
        obtain ⟨h', tk', news', e1, e2, e3, e4, e5, e6⟩ := hy
        exact ⟨h', tk', news', e1, e2, e3, e4, e5, rest_ind n J turn fin k (i + 1) _ _ (by omega) e6⟩) fun _ _ z => z
theorem restT_ind (n : Nat) (J : Nat → List Value → List (Addr × Obj) → Prop)
    (turn : ∀ i ys news, i < n → J i ys news → ∀ v I oI C oC D m₂ h tk (E' : Value → Shared → Prop), P i v → NsObj oC m₂ → m₂ x = some v → Fr h₀ L h m → News h₀ L h ((I, oI) :: (C, oC) :: (D, lst ys) :: news) → Off3 I C D news → ((@Ne Nat I C) ∧ (@Ne Nat I D) ∧ (@Ne Nat C D)) →
      wpAny (model prog w) A (isTrue ct (compEnvC scope cl C env) (eval ct (compEnvC scope cl C env))) (fun ok s' => if ok = true then
        wpAny (model prog w) A (eval elt (compEnvC scope cl C env)) (CompEnd h₀ L m { s with heap := h, toks := tk } I oI C oC D (lst ys) S (fun y news' => J (i + 1) (ys ++ [y]) news')) E' s'
        else CompEnd h₀ L m { s with heap := h, toks := tk } I oI C oC D (lst ys) S (fun _ news' => J (i + 1) ys news') Value.none s') E' { s with heap := h, toks := tk })
    (fin : ∀ ys news, J n ys news → Fin ys news) :
    ∀ (k i : Nat) (ys : List Value) (news : List (Addr × Obj)), i + k = n → J i ys news → CompRestT prog w A h₀ L m env ct elt x scope cl s S P Fin k i ys news
  | 0, i, ys, news, e, hJ => CompRestT.zero (fin _ _ (by have : i = n := by omega
                                                         subst this; exact hJ))
  | k + 1, i, ys, news, e, hJ => CompRestT.succ fun v I oI C oC D m₂ h tk E' a b c d f g q =>
      wpAny_mono (turn i ys news (by omega) hJ v I oI C oC D m₂ h tk E' a b c d f g q) (fun ok s' hy => by
        cases ok with
        | true =>
          simp only [if_true] at hy ⊢
          refine wpAny_mono hy (fun y s'' hz => ?_) fun _ _ z => z
          obtain ⟨h', tk', news', e1, e2, e3, e4, e5, e6⟩ := hz
          exact ⟨h', tk', news', e1, e2, e3, e4, e5, restT_ind n J turn fin k (i + 1) _ _ (by omega) e6⟩
        | false =>
          simp only [Bool.false_eq_true, if_false] at hy ⊢
          obtain ⟨h', tk', news', e1, e2, e3, e4, e5, e6⟩ := hy
          exact ⟨h', tk', news', e1, e2, e3, e4, e5, restT_ind n J turn fin k (i + 1) _ _ (by omega) e6⟩) fun _ _ z => z
theorem restP_ind (n : Nat) (J : Nat → List Value → List (Addr × Obj) → Prop)
    (turn : ∀ i ys news, i < n → J i ys news → ∀ v, P i v → ∃ (t : Addr) (ot : Obj) (v₁ v₂ : Value) (nt : Nat), v = .ref t ∧ (t, ot) ∈ news ∧ ot.cls = .type "tuple" ∧ ot.data = .seq #[v₁, v₂] nt ∧
      ∀ I oI C oC D m₂ h tk (E' : Value → Shared → Prop), NsObj oC m₂ → m₂ x = some v₁ → m₂ x₂ = some v₂ → Fr h₀ L h m → News h₀ L h ((I, oI) :: (C, oC) :: (D, lst ys) :: news) → Off3 I C D news → ((@Ne Nat I C) ∧ (@Ne Nat I D) ∧ (@Ne Nat C D)) →
      wpAny (model prog w) A (eval elt (compEnvC scope cl C env)) (CompEnd h₀ L m { s with heap := h, toks := tk } I oI C oC D (lst ys) S (fun y news' => J (i + 1) (ys ++ [y]) news')) E' { s with heap := h, toks := tk })
    (fin : ∀ ys news, J n ys news → Fin ys news) :
    ∀ (k i : Nat) (ys : List Value) (news : List (Addr × Obj)), i + k = n → J i ys news → CompRestP prog w A h₀ L m env elt x x₂ scope cl s S P Fin k i ys news
  | 0, i, ys, news, e, hJ => fin _ _ (by have : i = n := by omega
                                         subst this; exact hJ)
  | k + 1, i, ys, news, e, hJ => fun v hv => by
      obtain ⟨t, ot, v₁, v₂, nt, a1, a2, a3, a4, a5⟩ := turn i ys news (by omega) hJ v hv
      refine ⟨t, ot, v₁, v₂, nt, a1, a2, a3, a4, fun I oI C oC D m₂ h tk E' b c d f g q r => ?_⟩
      refine wpAny_mono (a5 I oI C oC D m₂ h tk E' b c d f g q r) (fun y s' hy => ?_) fun _ _ z => z
      obtain ⟨h', tk', news', e1, e2, e3, e4, e5, e6⟩ := hy
      exact ⟨h', tk', news', e1, e2, e3, e4, e5, restP_ind n J turn fin k (i + 1) _ _ (by omega) e6⟩
end
theorem off1_mem {D : Addr} {l : List (Addr × Obj)} (h : Off1 D l) : ∀ p ∈ l, p.1 ≠ D := by
  induction l with
  | nil => intro p hp; cases hp
  | cons q r ih =>
    intro p hp
    rcases List.mem_cons.mp hp with rfl | hp
    · exact h.1
    · exact ih h.2 p hp
theorem apart_lt {l : List (Addr × Obj)} {a b : Addr} (h : ∀ p ∈ l, p.1 < a) (hab : @LE.le Nat instLENat a b) : ∀ p ∈ l, p.1 ≠ b := fun p hp => Nat.ne_of_lt (Nat.lt_of_lt_of_le (h p hp) hab)
theorem news_skip {h₀ h : Heap} {L : Addr} {p q : Addr × Obj} {l : List (Addr × Obj)} (N : News h₀ L h (p :: q :: l)) : News h₀ L h (p :: l) := fun r hr => N r (by
  rcases List.mem_cons.mp hr with rfl | hr
  · exact .head _
  · exact .tail _ (.tail _ hr))
theorem news_mono {h₀ h : Heap} {L : Addr} {l l' : List (Addr × Obj)} (N : News h₀ L h l) (k : ∀ p ∈ l', p ∈ l) : News h₀ L h l' := fun r hr => N r (k r hr)
/-- the values are these texts -/
inductive StrsAre : List Value → List Str → Prop
  | nil : StrsAre [] []
  | cons (x : Str) (t : Tok) {vs xs} : StrsAre vs xs → StrsAre (.str x t :: vs) (x :: xs)
theorem StrsAre.snoc {vs xs} (h : StrsAre vs xs) (x : Str) (t : Tok) : StrsAre (vs ++ [.str x t]) (xs ++ [x]) := by
  induction h with
  | nil => exact .cons x t .nil
  | cons y u _ ih => exact .cons y u ih
theorem StrsAre.length {vs xs} (h : StrsAre vs xs) : vs.length = xs.length := by
  induction h with
  | nil => rfl
  | cons y u _ ih => simp [ih]
theorem StrsAre.get {vs xs} (h : StrsAre vs xs) : ∀ {i : Nat} {v : Value}, vs[i]? = some v → ∃ x t, v = .str x t ∧ xs[i]? = some x := by
  induction h with
  | nil => intro i v e; simp at e
  | cons y u _ ih =>
    intro i v e
    cases i with
    | zero => simp at e; exact ⟨y, u, e.symm, rfl⟩
    | succ i => simp only [List.getElem?_cons_succ] at e ⊢; exact ih e
abbrev tupOf (a b : Value) (n : Nat) : Obj := { cls := .type "tuple", data := .seq #[a, b] n }
/-- the items are tuples of two texts, in the ledger -/
inductive BookIn (news : List (Addr × Obj)) : List Value → List (Str × Str) → Prop
  | nil : BookIn news [] []
  | cons {t : Addr} {a b : Str} {ta tb : Tok} {n : Nat} {vs es} : (t, tupOf (.str a ta) (.str b tb) n) ∈ news → BookIn news vs es → BookIn news (.ref t :: vs) ((a, b) :: es)
theorem BookIn.mono {news news' vs es} (h : BookIn news vs es) (k : ∀ t a b n, (t, tupOf a b n) ∈ news → (t, tupOf a b n) ∈ news') : BookIn news' vs es := by
  induction h with
  | nil => exact .nil
  | cons hm _ ih => exact .cons (k _ _ _ _ hm) ih
theorem BookIn.snoc {news vs es} (h : BookIn news vs es) {t : Addr} {a b : Str} {ta tb : Tok} {n : Nat} (hm : (t, tupOf (.str a ta) (.str b tb) n) ∈ news) : BookIn news (vs ++ [.ref t]) (es ++ [(a, b)]) := by
  induction h with
  | nil => exact .cons hm .nil
  | cons hm' _ ih => exact .cons hm' ih
theorem BookIn.length {news vs es} (h : BookIn news vs es) : vs.length = es.length := by
  induction h with
  | nil => rfl
  | cons _ _ ih => simp [ih]
theorem BookIn.get {news vs es} (h : BookIn news vs es) : ∀ {i : Nat} {v : Value}, vs[i]? = some v → ∃ t a b ta tb n, v = .ref t ∧ es[i]? = some (a, b) ∧ (t, tupOf (.str a ta) (.str b tb) n) ∈ news := by
  induction h with
  | nil => intro i v e; simp at e
  | cons hm _ ih =>
    intro i v e
    cases i with
    | zero => simp at e; exact ⟨_, _, _, _, _, _, e.symm, rfl, hm⟩
    | succ i => simp only [List.getElem?_cons_succ] at e ⊢; exact ih e
/-- a ledger with the object at d turned -/
noncomputable def upd (d : Addr) (o : Obj) (l : List (Addr × Obj)) : List (Addr × Obj) := l.map fun p => if p.1 = d then (d, o) else p
theorem mem_upd_ne {d a : Addr} {o o' : Obj} {l : List (Addr × Obj)} (h : (a, o') ∈ l) (n : a ≠ d) : (a, o') ∈ upd d o l := by
  unfold upd
  exact List.mem_map.mpr ⟨(a, o'), h, by rw [if_neg n]⟩
theorem mem_upd_self {d : Addr} {o o' : Obj} {l : List (Addr × Obj)} (h : (d, o') ∈ l) : (d, o) ∈ upd d o l := by
  unfold upd
  exact List.mem_map.mpr ⟨(d, o'), h, by rw [if_pos rfl]⟩
theorem upd_apart {d c : Addr} {o : Obj} {l : List (Addr × Obj)} (h : ∀ p ∈ l, p.1 < c) : ∀ p ∈ upd d o l, p.1 < c := by
  intro p hp
  obtain ⟨q, hq, rfl⟩ := List.mem_map.mp hp
  by_cases e : q.1 = d
  · rw [if_pos e]; have := h q hq; rw [e] at this; exact this
  · rw [if_neg e]; exact h q hq
theorem news_fun {h₀ h : Heap} {L a : Addr} {news : List (Addr × Obj)} {o o' : Obj} (N : News h₀ L h news) (h1 : (a, o) ∈ news) (h2 : (a, o') ∈ news) : o = o' := by
  have e1 := (N _ h1).1
  rw [(N _ h2).1] at e1
  exact (Option.some.inj e1).symm
theorem news_ne {h₀ h : Heap} {L a b : Addr} {news : List (Addr × Obj)} {o o' : Obj} (N : News h₀ L h news) (h1 : (a, o) ∈ news) (h2 : (b, o') ∈ news) (hc : o.cls ≠ o'.cls) : a ≠ b := fun e => by
  subst e
  exact hc (by rw [news_fun N h1 h2])
theorem allLt_mem {d : Addr} : ∀ {l : List (Addr × Obj)}, AllLt d l → ∀ p ∈ l, @LT.lt Nat instLTNat p.1 d := by
  intro l
  induction l with
  | nil => intro _ p hp; cases hp
  | cons q r ih =>
    intro h p hp
    rcases List.mem_cons.mp hp with rfl | hp
    · exact h.1
    · exact ih h.2 p hp
theorem upd_cons_ne {d : Addr} {o : Obj} {p : Addr × Obj} {l : List (Addr × Obj)} (h : p.1 ≠ d) : upd d o (p :: l) = p :: upd d o l := by
  show (if p.1 = d then (d, o) else p) :: upd d o l = _
  rw [if_neg h]
theorem news_upd_pick {h₀ h : Heap} {L D d : Addr} {ot o : Obj} {l news : List (Addr × Obj)} (N : News h₀ L h (upd d o l)) (hD : (D, ot) ∈ l) (hne : D ≠ d) (hs : ∀ p ∈ news, p ∈ l) : News h₀ L h ((D, ot) :: upd d o news) := fun q hq => N q (by
  rcases List.mem_cons.mp hq with rfl | hq
  · exact mem_upd_ne hD hne
  · obtain ⟨p, hp, rfl⟩ := List.mem_map.mp hq
    exact List.mem_map.mpr ⟨p, hs p hp, rfl⟩)
theorem join_one (x y : Str) : Txt.join x [y] = y := by
  rfl
section
variable {prog : Program} {w : World} {A : Around} {E : Value → Shared → Prop} {s : Shared} {h₀ : Heap} {L D : Addr} {m : Str → Option Value} {news : List (Addr × Obj)}
theorem append_U {its : Array Value} {n : Nat} {x : Value} {Q : Value → Shared → Prop} (F : Fr h₀ L s.heap m) (N : News h₀ L s.heap news) (hm : (D, W.listOf its n) ∈ news) (hsz : its.size ≤ sizeLine)
    (h : ∀ h', Fr h₀ L h' m → News h₀ L h' (upd D (W.listOf (its.push x) (n + 1)) news) → Q .none { s with heap := h' }) : wpAny (model prog w) A (call (.builtin "list.append") [.ref D, x]) Q E s := by
  have z := N _ hm
  exact append_at (hsz := hsz) z.1 fun h' hs ho' => h h' (F.change hs z.2.1 z.2.2) (N.update hm hs ho')
end
theorem fr_know {m : Str → Option Value} {x : Str} {v : Value} (hm : m x = some v) : m = fun z => if z = x then some v else m z := by
  funext z
  by_cases h : z = x
  · rw [if_pos h, h]; exact hm
  · rw [if_neg h]
theorem units_make (A : Around) (args : Args) : (A.under (Code.builtin "type.__call__" args)).units = A.units + 1 := rfl
/-- the three objects of a table of headers -/
structure HdrIn (news : List (Addr × Obj)) (self d hl : Addr) (hsh : Int) (tk : Tok) (nd nl : Nat) (items : List Value) : Prop where
  self : (self, instObj 203 d) ∈ news
  dict : (d, dictOf [⟨hsh, .str (Str.ofString "_headers") tk, .ref hl⟩] nd) ∈ news
  list : (hl, listOf items.toArray nl) ∈ news
end Mine

end
local macro_rules | `(tactic| k_all) => `(tactic| assumption)
local macro_rules | `(tactic| k_all) => `(tactic| exact Mine.apart_lt (by assumption) (by first | exact Nat.le_refl _ | exact Nat.le_succ _ | omega))
local macro_rules | `(tactic| k_mem) => `(tactic| assumption)
local macro_rules | `(tactic| k_room) => `(tactic| ktr_room)
local macro_rules | `(tactic| k_units) => `(tactic| ktr_units)
local macro_rules | `(tactic| ktr_units) => `(tactic| ((simp only [Mine.units_make]); ktr_units))
local macro_rules | `(tactic| walk_at "U9 all") => `(tactic| ((case k1 => k_asm); (case k2 => k_asm); (case k3 => k_asm); (case k4 => k_asm); (case k5 => k_asm); (case kK => first | exact rfl | assumption); (case kd => ktr_room); (case ku => ktr_units)))
section
open PySem PySem.W PyProof.Rows PySem.Spec PySem.Calls PyProof.Rows.LCg PyProof.Rows.LCt PyProof.Rows.LCp
set_option Elab.async false
set_option maxRecDepth 100000
set_option maxHeartbeats 8000000
namespace Mine
def TurnEnd (h₀ : Heap) (L : Addr) (I : Addr) (own : List (Addr × Obj)) (Jn : (Str → Option Value) → List (Addr × Obj) → Prop) (s₁ : Shared) (Q : Flow → Shared → Prop) (f : Flow) (s₂ : Shared) : Prop :=
  match f with
  | .ret v => Q (.ret v) s₂
  | .brk => Q .next s₂
  | _ => ∃ h' tk m' nw', s₂ = { s₁ with heap := h', toks := tk } ∧ Fr h₀ L h' m' ∧ News h₀ L h' (own ++ nw') ∧ (∀ p ∈ nw', p.1 ≠ I) ∧ Jn m' nw'
theorem TurnEnd.mk {h₀ : Heap} {L I : Addr} {own nw' : List (Addr × Obj)} {Jn : (Str → Option Value) → List (Addr × Obj) → Prop} {s₁ : Shared} {Q : Flow → Shared → Prop} {h' : Heap} {tk : Nat} {m' : Str → Option Value}
    (F : Fr h₀ L h' m') (N : News h₀ L h' (own ++ nw')) (hn : ∀ p ∈ nw', p.1 ≠ I) (hJ : Jn m' nw') : TurnEnd h₀ L I own Jn s₁ Q .next { s₁ with heap := h', toks := tk } := ⟨h', tk, m', nw', rfl, F, N, hn, hJ⟩
section
variable {prog : Program} {w : World} {A : Around} {E : Value → Shared → Prop} {s : Shared} {env : Env} {h₀ : Heap} {Q : Flow → Shared → Prop} {body : List Stmt}
/-- a for over a list of the ledger: the invariant is of the turn's number, the frame's map, the ledger -/
def ListLoop (prog : Program) (w : World) (A : Around) (h₀ : Heap) (env : Env) (bind : Value → (Str → Option Value) → (Str → Option Value) → List (Addr × Obj) → Prop) (body : List Stmt) (Q : Flow → Shared → Prop) (E : Value → Shared → Prop) (xv : Value) (s₁ : Shared) : Prop :=
  ∃ (l : Addr) (its : Array Value) (n : Nat) (m : Str → Option Value) (nw : List (Addr × Obj)) (J : Nat → (Str → Option Value) → List (Addr × Obj) → Prop),
    xv = .ref l ∧ A.handled = none ∧ (l, W.listOf its n) ∈ nw ∧ Fr h₀ env.locals s₁.heap m ∧ News h₀ env.locals s₁.heap nw ∧ J 0 m nw ∧
    (∀ I oI i v m₁ m₂ nw₁ h tk own, i < its.size → its[i]? = some v → J i m₁ nw₁ → bind v m₁ m₂ nw₁ → Fr h₀ env.locals h m₂ → News h₀ env.locals h (own ++ nw₁) → (I, oI) ∈ own → (∀ p ∈ nw₁, p.1 ≠ I) → (∀ q ∈ own, q.1 = I ∨ q.1 = l) →
      wpAny (model prog w) A (execs body env) (TurnEnd h₀ env.locals I own (J (i + 1)) { s₁ with heap := h, toks := tk } Q) E { s₁ with heap := h, toks := tk }) ∧
    (∀ m' nw' h' tk, J its.size m' nw' → Fr h₀ env.locals h' m' → News h₀ env.locals h' nw' → Q .next { s₁ with heap := h', toks := tk })
theorem For_L {x : Str} {px pos : Pos} {iter : PySem.Expr} {m₀ : Str → Option Value} (h₀ : Heap) (_F₀ : Fr h₀ env.locals s.heap m₀) (hx : env.kindOf x = some .local)
    (hp : (env.scope.kind == .class || (env.scope.kind == .module && env.locals != env.globals)) = false)
    (h : wpAny (model prog w) A (eval iter env) (ListLoop prog w A h₀ env (fun v m₁ m₂ _ => m₂ = fun y => if y = x then some v else m₁ y) body Q E) E s)
    (hs : ∀ x, foldedSetIterable iter env x = pure x)
    (hE : PassesOwn (model prog w) A env E) :
    wpAny (model prog w) A (exec (.For (.Name x px) iter body [] pos) env) Q E s := by
  refine For_invV h₀ hx hp (wpAny_mono h (fun xv s₁ h₁ => ?_) fun _ _ e => e) hs hE
  obtain ⟨l, its, n, m, nw, J, rfl, hh, hl, F, N, hj, turn, done⟩ := h₁
  have hol : s₁.heap.get? l = some (W.listOf its n) := (N _ hl).1
  have hls : s₁.heap.IsList l its := ⟨_, hol, rfl, n, rfl⟩
  have hne : l ≠ s₁.heap.objs.size := Nat.ne_of_lt (Heap.lt_size hol)
  refine wpAny_pyIter_list hls ?_
  have WW := Walks.list (prog := prog) (w := w) hh s₁.heap.objs.size l hne its
  refine ⟨_, _, _, its.size, _, _, m, nw, J, rfl, WW, ?_, ?_, ?_, ⟨⟨_, Heap.get?_push_size _ rfl, rfl, rfl⟩, hls.at fun o e => Heap.get?_push_of_some _ e⟩, F.push _, (fun p hp => ⟨Heap.get?_push_of_some _ (N p hp).1, (N p hp).2⟩), hj, ?_, ?_⟩
  · intro hm
    rcases List.mem_cons.mp hm with e | hm
    · exact absurd F.ns.lt (e ▸ Nat.lt_irrefl _)
    · exact (N _ hl).2.1 ((List.mem_singleton.mp hm).symm)
  · intro b hb
    rw [List.mem_singleton.mp hb]
    exact next_is_new F
  · intro p hp hI
    exact absurd (Heap.lt_size (N p hp).1) ((List.mem_singleton.mp hI) ▸ Nat.lt_irrefl _)
  · rintro i v m₁ news₁ s₁' own ⟨hh', tk', rfl⟩ hin hP hJ hoff hown hget hfp st F₁ N₁
    obtain ⟨oI, hoI, _⟩ := st.1
    have hIown := hfp _ (.head _) (next_is_new F) _ hoI
    have hnI : ∀ p ∈ news₁, p.1 ≠ s₁.heap.objs.size := fun p hp e => hoff p hp (by rw [e]; exact .head _)
    refine wpAny_mono (turn _ oI i v m₁ _ news₁ hh' tk' own hin hP hJ rfl F₁ N₁ hIown hnI (fun q hq => by have z := hown q hq; simp only [List.mem_cons, List.not_mem_nil, or_false] at z; exact z)) (fun f s₂ p => ?_) fun _ _ e => e
    have fin : (∃ h' tk m' nw', s₂ = { { s₁ with heap := hh', toks := tk' } with heap := h', toks := tk } ∧ Fr h₀ env.locals h' m' ∧ News h₀ env.locals h' (own ++ nw') ∧ (∀ p ∈ nw', p.1 ≠ s₁.heap.objs.size) ∧ J (i + 1) m' nw') →
        LoopStepU h₀ env.locals [s₁.heap.objs.size] own (J (i + 1)) { s₁ with heap := hh', toks := tk' } .next s₂ := by
      rintro ⟨h', tk, m', nw', e, F', N', hn, hm⟩
      exact ⟨rfl, h', tk, m', nw', e, F', N', fun p hp hI => hn p hp (List.mem_singleton.mp hI), hm⟩
    cases f with
    | ret v => exact .ret p
    | brk => exact .brk p
    | next => exact .next (fin p)
    | cont => exact .cont (fin p)
  · rintro h' tk' m' news' F' N' _ hJ
    exact done m' news' h' tk' hJ F' N'
/-- a for over a text -/
def StrLoop (prog : Program) (w : World) (A : Around) (h₀ : Heap) (env : Env) (x : Str) (body : List Stmt) (Q : Flow → Shared → Prop) (E : Value → Shared → Prop) (xv : Value) (s₁ : Shared) : Prop :=
  ∃ (xt : Str) (tx : Tok) (m : Str → Option Value) (nw : List (Addr × Obj)) (J : Nat → (Str → Option Value) → List (Addr × Obj) → Prop),
    xv = .str xt tx ∧ A.handled = none ∧ Fr h₀ env.locals s₁.heap m ∧ News h₀ env.locals s₁.heap nw ∧ J 0 m nw ∧
    (∀ I i c t m₁ nw₁ h tk own, i < xt.cps.size → xt.cps[i]? = some c → J i m₁ nw₁ → Fr h₀ env.locals h (fun y => if y = x then some (.str ⟨#[c]⟩ t) else m₁ y) → News h₀ env.locals h (own ++ nw₁) → (∀ p ∈ nw₁, p.1 ≠ I) →
      wpAny (model prog w) A (execs body env) (TurnEnd h₀ env.locals I own (J (i + 1)) { s₁ with heap := h, toks := tk } Q) E { s₁ with heap := h, toks := tk }) ∧
    (∀ m' nw' h' tk, J xt.cps.size m' nw' → Fr h₀ env.locals h' m' → News h₀ env.locals h' nw' → Q .next { s₁ with heap := h', toks := tk })
theorem For_S {x : Str} {px pos : Pos} {iter : PySem.Expr} {m₀ : Str → Option Value} (h₀ : Heap) (_F₀ : Fr h₀ env.locals s.heap m₀) (hx : env.kindOf x = some .local)
    (hp : (env.scope.kind == .class || (env.scope.kind == .module && env.locals != env.globals)) = false)
    (h : wpAny (model prog w) A (eval iter env) (StrLoop prog w A h₀ env x body Q E) E s)
    (hs : ∀ x, foldedSetIterable iter env x = pure x)
    (hE : PassesOwn (model prog w) A env E) :
    wpAny (model prog w) A (exec (.For (.Name x px) iter body [] pos) env) Q E s := by
  refine For_invV h₀ hx hp (wpAny_mono h (fun xv s₁ h₁ => ?_) fun _ _ e => e) hs hE
  obtain ⟨xt, tx, m, nw, J, rfl, hh, F, N, hj, turn, done⟩ := h₁
  refine wpAny_pyIter_str fun o St hW hst => ?_
  have WW := hW A hh
  refine ⟨_, _, _, _, _, _, m, nw, J, rfl, WW, ?_, ?_, ?_, hst, F.push _, (fun p hp => ⟨Heap.get?_push_of_some _ (N p hp).1, (N p hp).2⟩), hj, ?_, ?_⟩
  · intro hm
    exact absurd F.ns.lt ((List.mem_singleton.mp hm) ▸ Nat.lt_irrefl _)
  · intro b hb
    rw [List.mem_singleton.mp hb]
    exact next_is_new F
  · intro p hp hI
    exact absurd (Heap.lt_size (N p hp).1) ((List.mem_singleton.mp hI) ▸ Nat.lt_irrefl _)
  · rintro i v m₁ news₁ s₁' own ⟨hh', tk', rfl⟩ hin ⟨c, t, hc, rfl⟩ hJ hoff hown hget hfp st F₁ N₁
    have hnI : ∀ p ∈ news₁, p.1 ≠ s₁.heap.objs.size := fun p hp e => hoff p hp (by rw [e]; exact .head _)
    refine wpAny_mono (turn _ i c t m₁ news₁ hh' tk' own hin hc hJ F₁ N₁ hnI) (fun f s₂ p => ?_) fun _ _ e => e
    have fin : (∃ h' tk m' nw', s₂ = { { s₁ with heap := hh', toks := tk' } with heap := h', toks := tk } ∧ Fr h₀ env.locals h' m' ∧ News h₀ env.locals h' (own ++ nw') ∧ (∀ p ∈ nw', p.1 ≠ s₁.heap.objs.size) ∧ J (i + 1) m' nw') →
        LoopStepU h₀ env.locals [s₁.heap.objs.size] own (J (i + 1)) { s₁ with heap := hh', toks := tk' } .next s₂ := by
      rintro ⟨h', tk, m', nw', e, F', N', hn, hm⟩
      exact ⟨rfl, h', tk, m', nw', e, F', N', fun p hp hI => hn p hp (List.mem_singleton.mp hI), hm⟩
    cases f with
    | ret v => exact .ret p
    | brk => exact .brk p
    | next => exact .next (fin p)
    | cont => exact .cont (fin p)
  · rintro h' tk' m' news' F' N' _ hJ
    exact done m' news' h' tk' hJ F' N'
/-- a for over a list of pairs -/
def PairLoop (prog : Program) (w : World) (A : Around) (h₀ : Heap) (env : Env) (x y : Str) (body : List Stmt) (Q : Flow → Shared → Prop) (E : Value → Shared → Prop) (xv : Value) (s₁ : Shared) : Prop :=
  ∃ (l : Addr) (its : Array Value) (n : Nat) (m : Str → Option Value) (nw : List (Addr × Obj)) (J : Nat → (Str → Option Value) → List (Addr × Obj) → Prop),
    xv = .ref l ∧ A.handled = none ∧ (l, W.listOf its n) ∈ nw ∧ Fr h₀ env.locals s₁.heap m ∧ News h₀ env.locals s₁.heap nw ∧ J 0 m nw ∧
    (∀ i v m₁ nw₁, its[i]? = some v → J i m₁ nw₁ → ∃ t a b n, v = Value.ref t ∧ (t, tupOf a b n) ∈ nw₁ ∧
      ∀ I oI h tk own, i < its.size → Fr h₀ env.locals h (fun z => if z = y then some b else if z = x then some a else m₁ z) → News h₀ env.locals h (own ++ nw₁) → (I, oI) ∈ own → (∀ p ∈ nw₁, p.1 ≠ I) → (∀ q ∈ own, q.1 = I ∨ q.1 = l) →
      wpAny (model prog w) A (execs body env) (TurnEnd h₀ env.locals I own (J (i + 1)) { s₁ with heap := h, toks := tk } Q) E { s₁ with heap := h, toks := tk }) ∧
    (∀ (i : Nat) v, its[i]? = some v → ∃ t, v = Value.ref t) ∧
    (∀ m' nw' h' tk, J its.size m' nw' → Fr h₀ env.locals h' m' → News h₀ env.locals h' nw' → Q .next { s₁ with heap := h', toks := tk })
theorem For_P {x y : Str} {px py pt pos : Pos} {k : Nat} {iter : PySem.Expr} {m₀ : Str → Option Value} (h₀ : Heap) (F₀ : Fr h₀ env.locals s.heap m₀) (hx : env.kindOf x = some .local) (hy : env.kindOf y = some .local)
    (hp : (env.scope.kind == .class || (env.scope.kind == .module && env.locals != env.globals)) = false)
    (h : wpAny (model prog w) A (eval iter env) (PairLoop prog w A h₀ env x y body Q E) E s)
    (hs : ∀ x, foldedSetIterable iter env x = pure x)
    (hE : PassesOwn (model prog w) A env E) :
    wpAny (model prog w) A (exec (.For (.Tuple [.Name x px, .Name y py] k pt) iter body [] pos) env) Q E s := by
  refine For_turns (h₀ := h₀) F₀ (wpAny_mono h (fun xv s₁ h₁ => ?_) fun _ _ e => e) hs hE
  obtain ⟨l, its, n, m, nw, J, rfl, hh, hl, F, N, hj, turn, hall, done⟩ := h₁
  have hol : s₁.heap.get? l = some (W.listOf its n) := (N _ hl).1
  have hls : s₁.heap.IsList l its := ⟨_, hol, rfl, n, rfl⟩
  have hne : l ≠ s₁.heap.objs.size := Nat.ne_of_lt (Heap.lt_size hol)
  refine wpAny_pyIter_list hls ?_
  have WW := Walks.list (prog := prog) (w := w) hh s₁.heap.objs.size l hne its
  have KT : KTurns prog w A (.Tuple [.Name x px, .Name y py] k pt) s₁.heap.objs.size [s₁.heap.objs.size, l] [s₁.heap.objs.size] its.size (fun i v _ => its[i]? = some v)
      (fun i v h => its[i]? = some v ∧ (h.IsListIter s₁.heap.objs.size l (i + 1) ∧ h.IsList l its)) (fun i h => h.IsListIter s₁.heap.objs.size l i ∧ h.IsList l its) :=
    { sub := WW.sub, frame := WW.frame
      item := fun i s Q E hi st hQ => WW.item i s Q E hi st fun v h' tk hP st' hk => hQ v h' tk ⟨hP, st'⟩ hk
      go := fun i v s Q E hm hQ => by
        obtain ⟨hP, st⟩ := hm
        obtain ⟨t, rfl⟩ := hall i v hP
        exact wpAny_letOwnedTupleGo_listiter st.1 (hQ s.heap hP st fun _ _ _ e => e)
      done := WW.done }
  refine ⟨_, _, _, its.size, _, _, _, m, nw, J, rfl, KT, ?_, ?_, ?_, ⟨⟨_, Heap.get?_push_size _ rfl, rfl, rfl⟩, hls.at fun o e => Heap.get?_push_of_some _ e⟩, F.push _, (fun p hp => ⟨Heap.get?_push_of_some _ (N p hp).1, (N p hp).2⟩), hj, ?_, ?_⟩
  · intro hm
    rcases List.mem_cons.mp hm with e | hm
    · exact absurd F.ns.lt (e ▸ Nat.lt_irrefl _)
    · exact (N _ hl).2.1 ((List.mem_singleton.mp hm).symm)
  · intro b hb
    rw [List.mem_singleton.mp hb]
    exact next_is_new F
  · intro p hp hI
    exact absurd (Heap.lt_size (N p hp).1) ((List.mem_singleton.mp hI) ▸ Nat.lt_irrefl _)
  · rintro i v m₁ news₁ hh' tk' own hin hP hJ hoff hown hget hfp st F₁ N₁
    obtain ⟨oI, hoI, _⟩ := st.1
    have hIown := hfp _ (.head _) (next_is_new F) _ hoI
    have hnI : ∀ p ∈ news₁, p.1 ≠ s₁.heap.objs.size := fun p hp e => hoff p hp (by rw [e]; exact .head _)
    obtain ⟨t, a, b, nt, rfl, hm, turn'⟩ := turn i v m₁ news₁ hP hJ
    have hT : hh'.IsTuple t #[a, b] := ⟨_, (N₁ _ (List.mem_append_right _ hm)).1, rfl, _, rfl⟩
    refine kcp_assign hh hT hx hy hp F₁.ns fun h₂ tk₂ hn₂ hk₂ => ?_
    have F₂ : Fr h₀ env.locals h₂ (fun z => if z = y then some b else if z = x then some a else m₁ z) := ⟨hn₂, fun c o e => hk₂ c o (fun q => by rw [q, Heap.get?_none_of_le F₁.above] at e; cases e) (F₁.keep c o e), F₁.above⟩
    have N₂ : News h₀ env.locals h₂ (own ++ news₁) := fun p hp => ⟨hk₂ _ _ (N₁ p hp).2.1 (N₁ p hp).1, (N₁ p hp).2⟩
    refine wpAny_mono (turn' _ oI h₂ tk₂ own hin F₂ N₂ hIown hnI (fun q hq => by have z := hown q hq; simp only [List.mem_cons, List.not_mem_nil, or_false] at z; exact z)) (fun f s₂ p => ?_) fun _ _ e => e
    have fin : (∃ h' tk m' nw', s₂ = { { s₁ with heap := h₂, toks := tk₂ } with heap := h', toks := tk } ∧ Fr h₀ env.locals h' m' ∧ News h₀ env.locals h' (own ++ nw') ∧ (∀ p ∈ nw', p.1 ≠ s₁.heap.objs.size) ∧ J (i + 1) m' nw') →
        LoopStepU h₀ env.locals [s₁.heap.objs.size] own (J (i + 1)) { s₁ with heap := hh', toks := tk' } .next s₂ := by
      rintro ⟨h', tk, m', nw', e, F', N', hn, hm⟩
      exact ⟨rfl, h', tk, m', nw', e, F', N', fun p hp hI => hn p hp (List.mem_singleton.mp hI), hm⟩
    cases f with
    | ret v => exact .ret p
    | brk => exact .brk p
    | next => exact .next (fin p)
    | cont => exact .cont (fin p)
  · rintro h' tk' m' news' F' N' _ hJ
    exact done m' news' h' tk' hJ F' N'
end
end Mine

end
section
open PySem PySem.W PyProof.Rows PySem.Spec PySem.Calls PyProof.Rows.LCg PyProof.Rows.LCt PyProof.Rows.LCp
set_option Elab.async false
set_option maxRecDepth 100000
set_option maxHeartbeats 8000000
namespace Mine
theorem freshConB : True := by
  w_top off
  trivial
theorem fillB : (fun (_ : OpenLaw) (_ : Params → Frag) => True) PySem.Challenge.rw_tp0024_01 hd.heap_39 := by
  k_fill
  trivial
variable (w : World) (mean : ExcName → Option Value) (mg mb : Str → Option Value)
section
local macro_rules | `(tactic| walk_at "SrcLP") => `(tactic| (k_here; k_dflt (refine LCp.SrcLP.ledger (by rfl) (by k_asm) (by k_asm) (by k_mem) (by assumption) ?_); intro g9))
theorem keys_c (self d hl : Addr) (hsh : Int) (tk : Tok) (nd nl : Nat) (items : List Value) (es : List (Str × Str)) (news : List (Addr × Obj)) :
    Cl w mean mg mb 155 3 24 [.ref self] [] news (HdrIn news self d hl hsh tk nd nl items ∧ BookIn news items es ∧ items.toArray.size ≤ sizeLine)
      (fun _ h₀ L h' v => ∃ D vs, v = .ref D ∧ News h₀ L h' ((D, lst vs) :: news) ∧ (∀ p ∈ news, p.1 ≠ D) ∧ StrsAre vs (es.map (·.1))) := by
  dsimp only [Cl]
  rintro dp un gd cn cs a ccd cl outer A₀ base h₀ L m s Q E hB hF hX hN hT hcs ⟨⟨hi1, hi2, hi3⟩, hbook, hsz⟩ hdp hun hret
  have cbI : CbIn 155 := CbIn.mk
  refine wpAny_call ?_
  k_dflt cell_enter
  k_steps
  refine restP_ind items.length (fun i ys nw => nw = news ∧ StrsAre ys ((es.map (·.1)).take i)) ?_ ?_ _ 0 [] news (by simp) ⟨rfl, .nil⟩
  · rintro i ys nw hi ⟨rfl, hys⟩ v hv
    obtain ⟨t, x, y, tx, ty, nt, rfl, hes, hm⟩ := hbook.get (i := i) (v := v) (by simpa using hv)
    refine ⟨t, _, _, _, _, rfl, hm, rfl, rfl, ?_⟩
    intro I oI C oC D m₂ h' tk' E' hC hx hy F' N' off' ne'
    k_steps
    refine LCg.CompEnd.intro F' N' nw (fun _ h => h) off' (.inr ⟨_, hi3, rfl, _, rfl⟩) ⟨rfl, ?_⟩
    have e : (es.map (·.1)).take (i + 1) = (es.map (·.1)).take i ++ [x] := by
      rw [List.take_add_one, List.getElem?_map, hes]; rfl
    rw [e]
    exact hys.snoc x tx
  · rintro ys nw ⟨rfl, hys⟩
    have e : (es.map (·.1)).take items.length = es.map (·.1) := List.take_of_length_le (by rw [List.length_map, hbook.length]; exact Nat.le_refl _)
    rw [e] at hys
    k_steps
    exact hret _ _ _ (by assumption) ⟨_, _, rfl, by assumption, off1_mem (by assumption), hys⟩
end
end Mine

end
section
open PySem PySem.W PyProof.Rows PySem.Spec PySem.Calls PyProof.Rows.LCg PyProof.Rows.LCt PyProof.Rows.LCp
set_option Elab.async false
set_option maxRecDepth 100000
set_option maxHeartbeats 8000000
namespace Mine
theorem freshConC : True := by
  w_top off
  trivial
theorem fillC : (fun (_ : OpenLaw) (_ : Params → Frag) => True) PySem.Challenge.rw_tp0024_01 hd.heap_39 := by
  k_fill
  trivial
variable (w : World) (mean : ExcName → Option Value) (mg mb : Str → Option Value)
section
local macro_rules | `(tactic| walk_at "call ref") => `(tactic| (k_here; (try dsimp only); (with_reducible show wpAny _ _ (call (Value.ref _) [Value.ref _, Value.str _ _] _) _ _ _); k_dflt ((refine' conv_k _ _ _ _ true _ _ _ _ _ ?kw _ _ _ _ _ _ _ _ _ _ _ _ _ _ _ _ _ ?k1 ?k2 ?k3 ?k4 ?k5 ?kK ?kp ?kd ?ku ?_; (case kw => exact rfl)); (case k1 => k_asm); (case k2 => k_asm); (case k3 => k_asm); (case k4 => k_asm); (case k5 => k_asm); (case kK => first | exact rfl | assumption); (case kp => assumption); (case kd => ktr_room); (case ku => ktr_units); k_whole; intro v9 h9 tk9 F9 r9; obtain ⟨e9, N9⟩ := r9; subst e9; (try dsimp only); (try k_fold))))
local macro_rules | `(tactic| walk_at "call builtin:str.lower") => `(tactic| (k_here; refine SCL.lower (by assumption) ?_; intro _))
local macro_rules | `(tactic| walk_at "CompSrcT") => `(tactic| (k_here; k_dflt (refine LCt.CompSrcT.ledger (by rfl) (by k_asm) (by k_asm) (by k_mem) (by assumption) ?_); intro g9))
theorem getall_c (self d hl : Addr) (hsh : Int) (tk : Tok) (nd nl : Nat) (items : List Value) (es : List (Str × Str)) (name : Str) (tn : Tok) (news : List (Addr × Obj)) :
    Cl w mean mg mb 142 3 24 [.ref self, .str name tn] [] news (HdrIn news self d hl hsh tk nd nl items ∧ BookIn news items es ∧ items.toArray.size ≤ sizeLine ∧ (∀ e ∈ es, e.1.length ≤ 5592405) ∧ name.length ≤ 5592405 ∧ FineStr (Txt.lower name))
      (fun _ h₀ L h' v => ∃ D vs, v = .ref D ∧ News h₀ L h' ((D, lst vs) :: news) ∧ (∀ p ∈ news, p.1 ≠ D) ∧ StrsAre vs ((es.filter fun e => Txt.lower e.1 == Txt.lower name).map (·.2))) := by
  dsimp only [Cl]
  rintro dp un gd cn cs a ccd cl outer A₀ base h₀ L m s Q E hB hF hX hN hT hcs ⟨⟨hi1, hi2, hi3⟩, hbook, hsz, hshort, hlen, hfine⟩ hdp hun hret
  have cbI : CbIn 142 := CbIn.mk
  refine wpAny_call ?_
  k_dflt (refine' code_defC ?k1 ?k2 ?k3 ?k4 ?k5 ?kA ?kF ?kK ?k6 ?k7 ?k8 ?k9 ?kB ?kD ?_ ?c2 ?c3 ?c4; (case kA => exact rfl); (case kF => exact rfl); (case kK => assumption); (case k1 => k_asm); (case k2 => k_asm); (case k3 => k_asm); (case k4 => k_asm); (case k5 => k_asm); (case k6 => k_is); (case k7 => k_is); (case k8 => ktr_room); (case k9 => exact BindsTo.of_eq rfl); (case kB => exact rfl); (case kD => decide +kernel); (case c2 => exact rfl); (case c3 => exact rfl); (case c4 => exact rfl); k_whole; intro g' L' h' tk' cells' FG' F' N' Y' B' X' T' l1; (try k_lt l1); k_cells Y'; (try simp only [List.cons_append, List.nil_append] at N'); (try dsimp only); (try k_lift B'); (try k_fold))
  k_steps
  generalize hnw : ((L' + 1, _) :: news : List (Addr × Obj)) = nw5
  refine restT_ind items.length (fun i ys nw => nw = nw5 ∧ StrsAre ys (((es.take i).filter fun e => Txt.lower e.1 == Txt.lower name).map (·.2))) ?_ ?_ _ 0 [] nw5 (by simp) ⟨rfl, .nil⟩
  · rintro i ys nw hi ⟨rfl, hys⟩ v I oI C oC D m₂ h5 tk5 E5 hv hC hx F5 N5 off5 ne5
    obtain ⟨t, x, y, tx, ty, nt, rfl, hes, hm⟩ := hbook.get (i := i) (v := v) (by simpa using hv)
    subst hnw
    have hxl : x.length ≤ 5592405 := hshort _ (List.mem_of_getElem? hes)
    have e : (es.take (i + 1)) = es.take i ++ [(x, y)] := by rw [List.take_add_one, hes]; rfl
    k_steps
    · rename (Txt.lower x == Txt.lower name) = true => hc
      refine LCg.CompEnd.intro (by assumption) (by assumption) _ (fun _ h => h) off5 (.inr ⟨_, .tail _ hi3, rfl, _, rfl⟩) ⟨rfl, ?_⟩
      rw [e, List.filter_append, List.map_append]
      simp only [List.filter_cons, List.filter_nil, hc, if_true, List.map_cons, List.map_nil]
      exact hys.snoc y ty
    · rename (Txt.lower x == Txt.lower name) = false => hc
      refine LCg.CompEnd.intro (by assumption) (by assumption) _ (fun _ h => h) off5 (.inr ⟨_, .tail _ hi3, rfl, _, rfl⟩) ⟨rfl, ?_⟩
      rw [e, List.filter_append, List.map_append]
      simp only [List.filter_cons, List.filter_nil, hc, Bool.false_eq_true, if_false, List.map_nil, List.append_nil]
      exact hys
  · rintro ys nw ⟨rfl, hys⟩
    have e : es.take items.length = es := List.take_of_length_le (by rw [hbook.length]; exact Nat.le_refl _)
    rw [e] at hys
    subst hnw
    k_steps
    rename News h₀ L _ ((_, _) :: (_, _) :: news) => N6
    rename (_ ∧ Off1 _ news) => o6
    exact hret _ _ _ (by assumption) ⟨_, _, rfl, news_skip N6, off1_mem o6.2, hys⟩
end
end Mine

end
section
open PySem PySem.W PyProof.Rows PySem.Spec PySem.Calls PyProof.Rows.LCg PyProof.Rows.LCt PyProof.Rows.LCp
set_option Elab.async false
set_option maxRecDepth 100000
set_option maxHeartbeats 8000000
namespace Mine
theorem freshConE : True := by
  w_top off
  trivial
theorem fillE : (fun (_ : OpenLaw) (_ : Params → Frag) => True) PySem.Challenge.rw_tp0024_01 hd.heap_39 := by
  k_fill
  trivial
variable (w : World) (mean : ExcName → Option Value) (mg mb : Str → Option Value)
section
local macro_rules | `(tactic| walk_at "call ref") => `(tactic| (k_here; (try dsimp only); (with_reducible show wpAny _ _ (call (Value.ref _) [Value.ref _, Value.str _ _] _) _ _ _); k_dflt ((first | (refine' conv_k _ _ _ _ true _ _ _ _ _ ?kw _ _ _ _ _ _ _ _ _ _ _ _ _ _ _ _ _ ?k1 ?k2 ?k3 ?k4 ?k5 ?kK ?kp ?kd ?ku ?_; (case kw => exact rfl)) | (refine' conv_k _ _ _ _ false _ _ _ _ _ ?kw _ _ _ _ _ _ _ _ _ _ _ _ _ _ _ _ _ ?k1 ?k2 ?k3 ?k4 ?k5 ?kK ?kp ?kd ?ku ?_; (case kw => exact rfl))); (case k1 => k_asm); (case k2 => k_asm); (case k3 => k_asm); (case k4 => k_asm); (case k5 => k_asm); (case kK => first | exact rfl | assumption); (case kp => assumption); (case kd => ktr_room); (case ku => ktr_units); k_whole; intro v9 h9 tk9 F9 r9; obtain ⟨e9, N9⟩ := r9; subst e9; (try dsimp only); (try k_fold))))
local macro_rules | `(tactic| walk_at "call builtin:list.append") => `(tactic| (k_here; (with_reducible show wpAny _ _ (call (Value.builtin _) [Value.ref _, _]) _ _ _); k_dflt (refine' append_U ?F ?N ?m ?z ?_; (case F => k_asm); (case N => k_asm); (case m => ((repeat refine List.Mem.tail _ ?_); assumption)); (case z => assumption); k_whole); intro h9 F9 N9))
theorem add_c (self d hl : Addr) (hsh : Int) (tk : Tok) (nd nl : Nat) (items : List Value) (name value : Str) (tn tv : Tok) (news : List (Addr × Obj)) :
    Cl w mean mg mb 200 3 24 [.ref self, .str name tn, .str value tv] [] news (HdrIn news self d hl hsh tk nd nl items ∧ items.toArray.size ≤ sizeLine ∧ FineStr name ∧ FineStr value ∧ value.length ≤ 1000)
      (fun _ h₀ L h' v => v = .none ∧ ∃ t u n, News h₀ L h' ((t, tupOf (.str name tn) (.str value u) n) :: upd hl (W.listOf (items ++ [Value.ref t]).toArray (nl + 1)) news) ∧ ∀ p ∈ news, p.1 < t) := by
  dsimp only [Cl]
  rintro dp un gd cn cs a ccd cl outer A₀ base h₀ L m s Q E hB hF hX hN hT hcs ⟨⟨hi1, hi2, hi3⟩, hsz, hfn, hfv, hvl⟩ hdp hun hret
  have cbI : CbIn 200 := CbIn.mk
  refine wpAny_call ?_
  (refine' kp_more ?k1 ?k2 ?k3 ?k4 ?k5 ?kA ?kF ?kK ?k6 ?k7 ?k8 ?kX ?kM ?kN ?kD ?kR ?kP ?kT ?kB ?_ ?c2 ?c3 ?c4 ?c5; (case kA => exact rfl); (case kF => exact rfl); (case kK => assumption); (case k1 => k_asm); (case k2 => k_asm); (case k3 => k_asm); (case k4 => k_asm); (case k5 => k_asm); (case k6 => k_is); (case k7 => k_is); (case k8 => ktr_room); (case kX => kp_lit); (case kM => exact rfl); (case kN => exact rfl); (case kD => kp_flats); (case kR => exact rfl); (case kP => exact rfl); (case kT => exact fun _ => rfl); (case kB => exact fun _ => locs rfl); (case c5 => decide); (case c2 => exact rfl); (case c3 => exact rfl); (case c4 => exact rfl); k_whole; intro D' o' g' L' h' tk' l1 lo' hs' fs' FG' F' N' B' X' T'; (try k_lt l1); (try dsimp only); (try k_lift B'); (try k_fold))
  k_steps
  rename News h₀ L _ (upd hl _ _) => N6
  rename (_ ∧ _ ∧ _ ∧ AllLt _ news) => o6
  have q6 := allLt_mem o6.2.2.2
  rw [join_one] at N6
  refine hret _ _ _ (by assumption) ⟨rfl, _, _, _, news_upd_pick (by rw [List.push_toArray] at N6; exact N6) (.head _) ?_ ?_, q6⟩
  · exact Nat.ne_of_gt (q6 _ hi3)
  · exact fun p hp => .tail _ (.tail _ (.tail _ (.tail _ hp)))
end
end Mine

end
section
open PySem PySem.W PyProof.Rows PySem.Spec PySem.Calls PyProof.Rows.LCg PyProof.Rows.LCt PyProof.Rows.LCp
set_option Elab.async false
set_option maxRecDepth 100000
set_option maxHeartbeats 8000000
namespace Mine
theorem freshConD : True := by
  w_top off
  trivial
theorem fillD : (fun (_ : OpenLaw) (_ : Params → Frag) => True) PySem.Challenge.rw_tp0024_01 hd.heap_39 := by
  k_fill
  trivial
variable (w : World) (mean : ExcName → Option Value) (mg mb : Str → Option Value)
section
local macro_rules | `(tactic| walk_at "subscriptTail") => `(tactic| (k_here; (with_reducible show wpAny _ _ (subscriptTail _ (PySem.Expr.Slice none none none _) (Value.ref _) (Value.ref _)) _ _ _); k_dflt (refine' kmk_slice ?F ?N ?l ?p ?q ?_ ?s ?t ?z; (case F => k_asm); (case N => k_asm); (case l => exact ⟨_, ((by k_asm : News _ _ _ _) _ (by k_mem)).1, rfl, _, rfl⟩); (case p => kmk_part); (case q => kmk_part); (case s => with_unfolding_all rfl); (case t => kmk_pure); (case z => assumption)); intro D9 h9 F9 N9 l9; (simp only [slicePick_all] at N9)))
theorem items_c (self d hl : Addr) (hsh : Int) (tk : Tok) (nd nl : Nat) (items : List Value) (news : List (Addr × Obj)) :
    Cl w mean mg mb 167 3 24 [.ref self] [] news (HdrIn news self d hl hsh tk nd nl items ∧ items.toArray.size ≤ sizeLine)
      (fun _ h₀ L h' v => ∃ D, v = .ref D ∧ News h₀ L h' ((D, W.listOf items.toArray 0) :: news) ∧ (∀ p ∈ news, p.1 ≠ D)) := by
  dsimp only [Cl]
  rintro dp un gd cn cs a ccd cl outer A₀ base h₀ L m s Q E hB hF hX hN hT hcs ⟨⟨hi1, hi2, hi3⟩, hsz⟩ hdp hun hret
  have cbI : CbIn 167 := CbIn.mk
  refine wpAny_call ?_
  k_dflt cell_enter
  k_steps
  exact hret _ _ _ (by assumption) ⟨_, rfl, by assumption, fun p hp => Nat.ne_of_lt ((by assumption : ∀ p ∈ news, p.1 < _) p hp)⟩
end
end Mine

end
section
open PySem PySem.W PyProof.Rows PySem.Spec PySem.Calls PyProof.Rows.LCg PyProof.Rows.LCt PyProof.Rows.LCp
set_option Elab.async false
set_option maxRecDepth 100000
set_option maxHeartbeats 8000000
namespace Mine
theorem freshConF : True := by
  w_top off
  trivial
theorem fillF : (fun (_ : OpenLaw) (_ : Params → Frag) => True) PySem.Challenge.rw_tp0024_01 hd.heap_39 := by
  k_fill
  trivial
variable (w : World) (mean : ExcName → Option Value) (mg mb : Str → Option Value)
section
local macro_rules | `(tactic| walk_at "call ref") => `(tactic| (k_here; (try dsimp only); (with_reducible show wpAny _ _ (call (Value.ref _) [Value.ref _, Value.str _ _] _) _ _ _); k_dflt ((first | (refine' conv_k _ _ _ _ true _ _ _ _ _ ?kw _ _ _ _ _ _ _ _ _ _ _ _ _ _ _ _ _ ?k1 ?k2 ?k3 ?k4 ?k5 ?kK ?kp ?kd ?ku ?_; (case kw => exact rfl)) | (refine' conv_k _ _ _ _ false _ _ _ _ _ ?kw _ _ _ _ _ _ _ _ _ _ _ _ _ _ _ _ _ ?k1 ?k2 ?k3 ?k4 ?k5 ?kK ?kp ?kd ?ku ?_; (case kw => exact rfl))); (case k1 => k_asm); (case k2 => k_asm); (case k3 => k_asm); (case k4 => k_asm); (case k5 => k_asm); (case kK => first | exact rfl | assumption); (case kp => assumption); (case kd => ktr_room); (case ku => ktr_units); k_whole; intro v9 h9 tk9 F9 r9; obtain ⟨e9, N9⟩ := r9; subst e9; (try dsimp only); (try k_fold))))
local macro_rules | `(tactic| walk_at "exec For Tuple Name") => `(tactic| (k_here; k_dflt (refine' For_P _ ?k1 ?k2 ?k3 ?k4 ?_ ?k5 ?k6; (case k1 => k_asm); (case k2 => rfl); (case k3 => rfl); (case k4 => rfl); (case k5 => (intro _; rfl)); (case k6 => passes_own); k_whole)))
theorem init0_c (news : List (Addr × Obj)) :
    Cl w mean mg mb 203 6 40 [] [] news True
      (fun _ h₀ L h' v => ∃ x d l hsh tk nd nl nw, v = Value.ref x ∧ News h₀ L h' nw ∧ HdrIn nw x d l hsh tk nd nl [] ∧ (∀ p ∈ news, p ∈ nw) ∧ (∀ p ∈ news, p.1 ≠ l ∧ p.1 ≠ x ∧ p.1 ≠ d)) := by
  dsimp only [Cl]
  rintro dp un gd cn cs a ccd cl outer A₀ base h₀ L m s Q E hB hF hX hN hT hcs - hdp hun hret
  have cbI : CbIn 203 := CbIn.mk
  refine' call_cls ?k1 ?k2 ?k3 ?k4 ?k5 ?k6 ?_
  case k1 => k_asm
  case k2 => k_asm
  case k3 => k_asm
  case k4 => k_is
  case k5 => k_is
  case k6 => k_is
  intro x' d' h' F' N' l1 l2
  (try k_lt l1)
  (try k_lt2 l2)
  (refine' code_def ?k1 ?k2 ?k3 ?k4 ?k5 ?kA ?kF ?kK ?k6 ?k7 ?k8 ?k9 ?kB ?_ ?c2 ?c3 ?c4 ?c5; (case kA => exact rfl); (case kF => exact rfl); (case kK => assumption); (case k1 => k_asm); (case k2 => k_asm); (case k3 => k_asm); (case k4 => k_asm); (case k5 => k_asm); (case k6 => k_is); (case k7 => k_is); (case k8 => ktr_room); (case k9 => first | exact BindsTo.of_eq rfl | exact binds_K (by k_in) rfl (by k_is) rfl rfl rfl | fail "k_enter: no rule for these arguments"); (case c5 => decide); (case kB => exact locs rfl); (case c2 => exact rfl); (case c3 => exact rfl); (case c4 => exact rfl); k_whole; intro g' L' h' FG' F' N' B' X' T'; (try dsimp only); (try k_lift B'); (try k_fold))
  k_steps
  rename News g' L' _ (_ :: _ :: _ :: news) => N5
  generalize hnw : (_ :: _ :: _ :: news : List (Addr × Obj)) = nw5 at N5
  refine ⟨_, _, _, _, nw5, fun _ _ nw => nw = nw5, rfl, rfl, by rw [← hnw]; exact .head _, by k_asm, N5, rfl, ?_, ?_, ?_⟩
  · intro i v m₁ nw₁ e _
    exact absurd e (by simp)
  · intro i v e
    exact absurd e (by simp)
  · rintro m' nw' h5 tk5 rfl F5 N5'
    subst hnw
    k_steps
    rename News h₀ L _ (_ :: _ :: _ :: news) => N6
    rename (_ ∧ _ ∧ AllLt _ news) => o6
    refine hret _ _ _ (by assumption) ⟨_, _, _, _, _, _, _, _, rfl, N6, ⟨.tail _ (.head _), .tail _ (.tail _ (.head _)), .head _⟩, fun p hp => .tail _ (.tail _ (.tail _ hp)), fun p hp => ⟨Nat.ne_of_lt (allLt_mem o6.2.2 p hp), Nat.ne_of_lt (Nat.lt_trans (l1 p hp) l2), Nat.ne_of_lt (l1 p hp)⟩⟩
theorem init1_c (lst t : Addr) (nl nt : Nat) (a b : Str) (ta tb : Tok) (news : List (Addr × Obj)) :
    Cl w mean mg mb 203 6 40 [.ref lst] [] news ((lst, W.listOf [Value.ref t].toArray nl) ∈ news ∧ (t, tupOf (.str a ta) (.str b tb) nt) ∈ news ∧ FineStr a ∧ FineStr b)
      (fun _ h₀ L h' v => ∃ x d hsh tk nd nw, v = Value.ref x ∧ News h₀ L h' nw ∧ HdrIn nw x d lst hsh tk nd nl [.ref t] ∧ (∀ p ∈ news, p ∈ nw)) := by
  dsimp only [Cl]
  rintro dp un gd cn cs aa ccd cl outer A₀ base h₀ L m s Q E hB hF hX hN hT hcs ⟨hl, ht, hfa, hfb⟩ hdp hun hret
  have cbI : CbIn 203 := CbIn.mk
  refine' call_cls ?k1 ?k2 ?k3 ?k4 ?k5 ?k6 ?_
  case k1 => k_asm
  case k2 => k_asm
  case k3 => k_asm
  case k4 => k_is
  case k5 => k_is
  case k6 => k_is
  intro x' d' h' F' N' l1 l2
  (try k_lt l1)
  (try k_lt2 l2)
  (refine' code_def ?k1 ?k2 ?k3 ?k4 ?k5 ?kA ?kF ?kK ?k6 ?k7 ?k8 ?k9 ?kB ?_ ?c2 ?c3 ?c4 ?c5; (case kA => exact rfl); (case kF => exact rfl); (case kK => assumption); (case k1 => k_asm); (case k2 => k_asm); (case k3 => k_asm); (case k4 => k_asm); (case k5 => k_asm); (case k6 => k_is); (case k7 => k_is); (case k8 => ktr_room); (case k9 => first | exact BindsTo.of_eq rfl | exact binds_K (by k_in) rfl (by k_is) rfl rfl rfl | fail "k_enter: no rule for these arguments"); (case c5 => decide); (case kB => exact locs rfl); (case c2 => exact rfl); (case c3 => exact rfl); (case c4 => exact rfl); k_whole; intro g' L' h' FG' F' N' B' X' T'; (try dsimp only); (try k_lift B'); (try k_fold))
  k_steps
  rename News g' L' _ (_ :: _ :: news) => N5
  generalize hnw : (_ :: _ :: news : List (Addr × Obj)) = nw5 at N5
  refine ⟨_, _, _, _, nw5, fun _ m nw => nw = nw5 ∧ m (Str.ofString "self") = some (.ref x'), rfl, rfl, by rw [← hnw]; exact .tail _ (.tail _ hl), by k_asm, N5, ⟨rfl, by rfl⟩, ?_, ?_, ?_⟩
  · rintro i v m₁ nw₁ e ⟨rfl, hm⟩
    have hi : i = 0 := by
      rcases i with _ | i
      · rfl
      · simp at e
    subst hi
    obtain rfl : v = .ref t := by simpa using e.symm
    subst hnw
    refine ⟨t, _, _, _, rfl, .tail _ (.tail _ ht), ?_⟩
    intro I oI h5 tk5 own hi F5 N5' hI hnI _
    rw [fr_know hm] at F5
    k_steps
    exact TurnEnd.mk (by assumption) (by assumption) hnI ⟨rfl, by rfl⟩
  · intro i v e
    rcases i with _ | i
    · exact ⟨t, by simpa using e.symm⟩
    · simp at e
  · rintro m' nw' h5 tk5 ⟨rfl, _⟩ F5 N5'
    subst hnw
    k_steps
    rename News h₀ L _ (_ :: _ :: news) => N6
    exact hret _ _ _ (by assumption) ⟨_, _, _, _, _, _, rfl, N6, ⟨.head _, .tail _ (.head _), .tail _ (.tail _ hl)⟩, fun p hp => .tail _ (.tail _ hp)⟩
end
end Mine

end
section
open PySem PySem.W PyProof.Rows PySem.Spec PySem.Calls PyProof.Rows.LCg PyProof.Rows.LCt PyProof.Rows.LCp
set_option Elab.async false
set_option maxRecDepth 100000
set_option maxHeartbeats 8000000
namespace Mine
local macro_rules | `(tactic| walk_at "none of these") => `(tactic| skip)
theorem freshConG : True := by
  w_top off
  trivial
theorem fillG : (fun (_ : OpenLaw) (_ : Params → Frag) => True) PySem.Challenge.rw_tp0024_01 hd.heap_39 := by
  k_fill
  trivial
variable (w : World) (mean : ExcName → Option Value) (mg mb : Str → Option Value)
noncomputable def purseF (pre : List Nat) : Int := pre.foldl (fun (a : Int) (c : Nat) => 16 * a + (c : Int) - 97) 0
/-- what is asked of a purse's letters, to be decided -/
noncomputable def nameChk (p : Int) : Bool :=
  ([true, false].all fun g => ((nameOf p g).cps.toList.all fun c => decide (65 ≤ c ∧ c < 127 ∧ (c ≤ 90 ∨ 97 ≤ c))) && decide ((nameOf p g).cps.toList.map lo1 = (nameOf p false).cps.toList)) &&
  ((List.range 3).all fun i => decide (-100000 ≤ purseF ((nameOf p false).cps.toList.take i) ∧ purseF ((nameOf p false).cps.toList.take i) ≤ 100000)) && decide (purseF ((nameOf p false).cps.toList.take 3) = p)
abbrev NameT (a : Nat) : Prop := ((List.range 256).all fun b => nameChk ((256 * a + b : Nat) : Int)) = true
theorem nameT0 : NameT 0 := by decide +kernel
theorem nameT1 : NameT 1 := by decide +kernel
theorem nameT2 : NameT 2 := by decide +kernel
theorem nameT3 : NameT 3 := by decide +kernel
theorem nameT4 : NameT 4 := by decide +kernel
theorem nameT5 : NameT 5 := by decide +kernel
theorem nameT6 : NameT 6 := by decide +kernel
theorem nameT7 : NameT 7 := by decide +kernel
theorem nameT8 : NameT 8 := by decide +kernel
theorem nameTab : ∀ a, a < 9 → NameT a
  | 0, _ => nameT0
  | 1, _ => nameT1
  | 2, _ => nameT2
  | 3, _ => nameT3
  | 4, _ => nameT4
  | 5, _ => nameT5
  | 6, _ => nameT6
  | 7, _ => nameT7
  | 8, _ => nameT8
  | a + 9, h => absurd (Nat.lt_of_le_of_lt (Nat.le_add_left 9 a) h) (Nat.lt_irrefl 9)
theorem name_chk {p : Int} (h : 0 ≤ p ∧ p ≤ 2048) : nameChk p = true := by
  obtain ⟨n, rfl⟩ := Int.eq_ofNat_of_zero_le h.1
  have hn : n ≤ 2048 := Int.ofNat_le.mp h.2
  have := List.all_eq_true.mp (nameTab (n / 256) (Nat.lt_succ_of_le (Nat.div_le_div_right hn))) (n % 256) (List.mem_range.mpr (Nat.mod_lt _ (by decide)))
  rw [Nat.div_add_mod] at this
  exact this
theorem nameOf_low (p : Int) (g : Bool) (h : 0 ≤ p ∧ p ≤ 2048) : ∀ c ∈ (nameOf p g).cps.toList, 65 ≤ c ∧ c < 127 ∧ (c ≤ 90 ∨ 97 ≤ c) := by
  intro c hc
  have t := name_chk h
  unfold nameChk at t
  simp only [Bool.and_eq_true] at t
  have t2 := List.all_eq_true.mp t.1.1 g (by cases g <;> decide)
  simp only [Bool.and_eq_true] at t2
  exact of_decide_eq_true (List.all_eq_true.mp t2.1 c hc)
theorem lower_name (p : Int) (g : Bool) (h : 0 ≤ p ∧ p ≤ 2048) : Txt.lower (nameOf p g) = nameOf p false := by
  rw [lower_ascii fun c hc => Nat.lt_succ_of_lt (nameOf_low p g h c hc).2.1]
  have t := name_chk h
  unfold nameChk at t
  simp only [Bool.and_eq_true] at t
  have t2 := List.all_eq_true.mp t.1.1 g (by cases g <;> decide)
  simp only [Bool.and_eq_true] at t2
  have e := of_decide_eq_true t2.2
  show (Str.mk (Array.map lo1 (nameOf p g).cps)) = Str.mk (nameOf p false).cps
  refine congrArg Str.mk (Array.toList_inj.mp ?_)
  rw [Array.toList_map]
  exact e
theorem fine_nameOf (p : Int) (g : Bool) (h : 0 ≤ p ∧ p ≤ 2048) : FineStr (nameOf p g) := by
  intro i hi
  have hm : (nameOf p g).cps.getD i 0 ∈ (nameOf p g).cps.toList := by
    rw [Array.getD_eq_getD_getElem?, Array.getElem?_eq_getElem hi, Option.getD_some]
    exact Array.mem_toList_iff.mpr (Array.getElem_mem hi)
  have := nameOf_low p g h _ hm
  exact ⟨by omega, by omega⟩
theorem len_nameOf (p : Int) (g : Bool) : (nameOf p g).length = 3 := rfl
section
local macro_rules | `(tactic| walk_at "call builtin:str.lower") => `(tactic| (k_here; refine SCL.lower (by rw [len_nameOf]; omega) ?_; intro _))
local macro_rules | `(tactic| walk_at "exec For Name Call cons nil") => `(tactic| (k_here; k_dflt (refine' For_S _ ?k1 ?k2 ?k4 ?_ ?k5 ?k6; (case k1 => k_asm); (case k2 => rfl); (case k4 => rfl); (case k5 => (intro _; rfl)); (case k6 => passes_own); k_whole)))
theorem purse_all (p : Int) (h : 0 ≤ p ∧ p ≤ 2048) : purseF ((nameOf p false).cps.toList.take 3) = p := by
  have t := name_chk h
  unfold nameChk at t
  simp only [Bool.and_eq_true] at t
  exact of_decide_eq_true t.2
theorem purse_bound (p : Int) (h : 0 ≤ p ∧ p ≤ 2048) (i : Nat) (hi : i < 3) : -100000 ≤ purseF ((nameOf p false).cps.toList.take i) ∧ purseF ((nameOf p false).cps.toList.take i) ≤ 100000 := by
  have t := name_chk h
  unfold nameChk at t
  simp only [Bool.and_eq_true] at t
  exact of_decide_eq_true (List.all_eq_true.mp t.1.2 i (List.mem_range.mpr hi))
theorem purse_snoc (l : List Nat) (i c : Nat) (h : l[i]? = some c) : purseF (l.take (i + 1)) = 16 * purseF (l.take i) + (c : Int) - 97 := by
  rw [List.take_add_one, h]
  simp only [purseF, Option.toList_some, List.foldl_append, List.foldl_cons, List.foldl_nil]
theorem purse_c (p : Int) (g : Bool) (tp : Tok) (news : List (Addr × Obj)) :
    Cl w mean mg mb 221 1 8 [.str (nameOf p g) tp] [] news (0 ≤ p ∧ p ≤ 2048) (fun _ h₀ L h' v => (∃ t, v = .int p t) ∧ News h₀ L h' news) := by
  dsimp only [Cl]
  rintro dp un gd cn cs aa ccd cl outer A₀ base h₀ L m s Q E hB hF hX hN hT hcs hp hdp hun hret
  have cbI : CbIn 221 := CbIn.mk
  refine wpAny_call ?_
  k_dflt cell_enter
  k_steps
  rw [lower_name p g hp]
  rename News _ _ _ news => N5
  refine ⟨_, _, _, news, fun i m nw => nw = news ∧ ∃ t, m (Str.ofString "whole") = some (.int (purseF ((nameOf p false).cps.toList.take i)) t), rfl, rfl, by k_asm, N5, ⟨rfl, _, by rfl⟩, ?_, ?_⟩
  · rintro I i c t m₁ nw₁ h5 tk5 own hi hc ⟨rfl, tw, hm⟩ F5 N5' hnI
    have hb := purse_bound p hp i hi
    rw [fr_know hm] at F5
    have hc3 : (nameOf p false).cps.toList[i]? = some c := by rw [Array.getElem?_toList]; exact hc
    have hc2 : c < 127 := (nameOf_low p false hp c (List.mem_of_getElem? hc3)).2.1
    have e := purse_snoc _ i c hc3
    k_steps
    exact TurnEnd.mk (by assumption) (by assumption) hnI ⟨rfl, _, by rw [e]; rfl⟩
  · rintro m' nw' h5 tk5 ⟨rfl, tw, hm⟩ F5 N5'
    have e : purseF ((nameOf p false).cps.toList.take (nameOf p false).cps.size) = p := purse_all p hp
    rw [e] at hm
    rw [fr_know hm] at F5
    k_steps
    exact hret _ _ _ (by assumption) ⟨⟨_, rfl⟩, by assumption⟩
end
end Mine

end
section
open PySem PySem.W PyProof.Rows PySem.Spec PySem.Calls PyProof.Rows.LCg PyProof.Rows.LCt PyProof.Rows.LCp
set_option Elab.async false
set_option maxRecDepth 100000
set_option maxHeartbeats 8000000
namespace Mine
theorem freshConH : True := by
  w_top off
  trivial
theorem fillH : (fun (_ : OpenLaw) (_ : Params → Frag) => True) PySem.Challenge.rw_tp0024_01 hd.heap_39 := by
  k_fill
  trivial
variable (w : World) (mean : ExcName → Option Value) (mg mb : Str → Option Value)
noncomputable def vF (a b c : UInt64) : UInt64 :=
  if (Float64.cmp (Float64.divmod c 4607182418800017408).2 4595172819793696085 == some Ordering.lt) = true then Float64.add a (Float64.mul (Float64.mul (Float64.sub b a) (Float64.divmod c 4607182418800017408).2) 4618441417868443648)
  else if (Float64.cmp (Float64.divmod c 4607182418800017408).2 4602678819172646912 == some Ordering.lt) = true then b
  else if (Float64.cmp (Float64.divmod c 4607182418800017408).2 4604180019048437077 == some Ordering.lt) = true then Float64.add a (Float64.mul (Float64.mul (Float64.sub b a) (Float64.sub 4604180019048437077 (Float64.divmod c 4607182418800017408).2)) 4618441417868443648)
  else a
theorem v_c (a b c : UInt64) (t1 t2 t3 : Tok) (news : List (Addr × Obj)) :
    Cl w mean mg mb 52 1 8 [.float a t1, .float b t2, .float c t3] [] news True (fun _ h₀ L h' v => (∃ t, v = .float (vF a b c) t) ∧ News h₀ L h' news) := by
  dsimp only [Cl]
  rintro dp un gd cn cs aa ccd cl outer A₀ base h₀ L m s Q E hB hF hX hN hT hcs - hdp hun hret
  have cbI : CbIn 52 := CbIn.mk
  refine wpAny_call ?_
  k_dflt cell_enter
  k_steps
  · exact hret _ _ _ (by assumption) ⟨⟨_, by rw [vF, if_pos (by assumption)]⟩, by assumption⟩
  · exact hret _ _ _ (by assumption) ⟨⟨_, by rw [vF, if_neg (by simp only [*]; decide), if_pos (by assumption)]⟩, by assumption⟩
  · exact hret _ _ _ (by assumption) ⟨⟨_, by rw [vF, if_neg (by simp only [*]; decide), if_neg (by simp only [*]; decide), if_pos (by assumption)]⟩, by assumption⟩
  · exact hret _ _ _ (by assumption) ⟨⟨_, by rw [vF, if_neg (by simp only [*]; decide), if_neg (by simp only [*]; decide), if_neg (by simp only [*]; decide)]⟩, by assumption⟩
section
local macro_rules | `(tactic| walk_at "call ref") => `(tactic| (k_here; (with_reducible show wpAny _ _ (call (Value.ref _) [Value.float _ _, Value.float _ _, Value.float _ _] _) _ _ _); k_dflt (refine' v_c _ _ _ _ _ _ _ _ _ _ _ _ _ _ _ _ _ _ _ _ _ _ _ _ _ _ _ _ ?k1 ?k2 ?k3 ?k4 ?k5 ?kK ?kp ?kd ?ku ?_; (case k1 => k_asm); (case k2 => k_asm); (case k3 => k_asm); (case k4 => k_asm); (case k5 => k_asm); (case kK => first | exact rfl | assumption); (case kp => trivial); (case kd => ktr_room); (case ku => ktr_units); k_whole; intro v9 h9 tk9 F9 r9; obtain ⟨⟨t9, e9⟩, N9⟩ := r9; subst e9; (try dsimp only); (try k_fold))))
noncomputable def m2F (l s : UInt64) : UInt64 := if (Float64.cmp l 4602678819172646912 == some Ordering.lt || Float64.cmp l 4602678819172646912 == some Ordering.eq) = true then Float64.mul l (Float64.add 4607182418800017408 s) else Float64.sub (Float64.add l s) (Float64.mul l s)
noncomputable def m1F (l s : UInt64) : UInt64 := Float64.sub (Float64.mul 4611686018427387904 l) (m2F l s)
abbrev tup3 (a b c : Value) : Obj := { cls := .type "tuple", data := .seq #[a, b, c] }
theorem hls_c (hu l sa : UInt64) (t1 t2 t3 : Tok) (news : List (Addr × Obj)) :
    Cl w mean mg mb 45 3 24 [.float hu t1, .float l t2, .float sa t3] [] news ((Float64.cmp sa 0 == some Ordering.eq) = false)
      (fun _ h₀ L h' v => ∃ t ta tb tc, v = Value.ref t ∧ News h₀ L h' ((t, tup3 (.float (vF (m1F l sa) (m2F l sa) (Float64.add hu 4599676419421066581)) ta) (.float (vF (m1F l sa) (m2F l sa) hu) tb) (.float (vF (m1F l sa) (m2F l sa) (Float64.sub hu 4599676419421066581)) tc)) :: news) ∧ ∀ p ∈ news, p.1 < t) := by
  dsimp only [Cl]
  rintro dp un gd cn cs aa ccd cl outer A₀ base h₀ L m s Q E hB hF hX hN hT hcs hsa hdp hun hret
  have cbI : CbIn 45 := CbIn.mk
  refine wpAny_call ?_
  k_dflt cell_enter
  k_steps
  · rename (_ || _) = true => hc
    have e2 : Float64.mul l (Float64.add 4607182418800017408 sa) = m2F l sa := by rw [m2F, if_pos hc]
    rename News h₀ L _ (_ :: news) => N6
    rw [e2] at N6
    refine hret _ _ _ (by assumption) ⟨_, _, _, _, rfl, N6, ?_⟩
    assumption
  · rename (_ || _) = false => hc
    have e2 : Float64.sub (Float64.add l sa) (Float64.mul l sa) = m2F l sa := by rw [m2F, if_neg (by rw [hc]; decide)]
    rename News h₀ L _ (_ :: news) => N6
    rw [e2] at N6
    refine hret _ _ _ (by assumption) ⟨_, _, _, _, rfl, N6, ?_⟩
    assumption
end
end Mine

end
section
open PySem PySem.W PyProof.Rows PySem.Spec PySem.Calls
open Sem (wp)
set_option Elab.async false
set_option maxRecDepth 100000
set_option maxHeartbeats 8000000
namespace Mine
section
variable {M : Model} {A : Around} {R : GenEnd} {Y : Protocol} {n : Nat} {s₀ : Shared} {c : Code} {fs : List PySem.Frame} {s : Shared} {env : Env}
  {K : Flow → Sem Fin} {H : Value → Sem Fin} {gd : Bool → Bool} {lv : List Value → List Value}
theorem bind_wrap {α β γ : Type} (m : Sem α) (f : α → Sem β) (K : β → Sem γ) (H : Value → Sem γ) (gd : Bool → Bool) (lv : List Value → List Value) :
    (m >>= f).wrap K H gd lv = m.wrap (fun a => (f a).wrap K H gd lv) H gd lv := by
  rw [Sem.bind_eq_wrap', Sem.wrap_wrap]
  rfl
theorem seg_wbind {α β : Type} {m : Sem α} {f : α → Sem β} {K : β → Sem Fin}
    (h : wpAny M (A.over c fs) m (fun a s' => Seg M A R Y n s₀ c ((f a).wrap K H gd lv) fs s') (fun x s' => Seg M A R Y n s₀ c (H x) fs s') s) : Seg M A R Y n s₀ c ((m >>= f).wrap K H gd lv) fs s := by
  rw [bind_wrap]
  exact seg_wrap h
theorem seg_Plain {st : Stmt}
    (h : wpAny M (A.over c fs) (exec st env) (fun f s' => Seg M A R Y n s₀ c (K f) fs s') (fun x s' => Seg M A R Y n s₀ c (H x) fs s') s) : Seg M A R Y n s₀ c ((exec st env).wrap K H gd lv) fs s := seg_wrap h
theorem seg_If {test : PySem.Expr} {body orelse : List Stmt} {pos : Pos}
    (h : wpAny M (A.over c fs) (isTrue test env (eval test env)) (fun b s' => if b = true then Seg M A R Y n s₀ c ((execs body env).wrap K H gd lv) fs s' else Seg M A R Y n s₀ c ((execs orelse env).wrap K H gd lv) fs s')
      (fun x s' => Seg M A R Y n s₀ c (H x) fs s') s) : Seg M A R Y n s₀ c ((exec (.If test body orelse pos) env).wrap K H gd lv) fs s := by
  rw [exec_If]
  refine seg_wbind (wpAny_standAt ?_)
  refine seg_wbind (wpAny_mono h (fun b s' hb => ?_) fun _ _ x => x)
  cases b with
  | true => simpa using hb
  | false => simpa using hb
/-- what a loop hands back: hx is what is done where an exception leaves -/
noncomputable def backOwn (hx : Value → Sem Unit) (K : Flow → Sem Fin) (H : Value → Sem Fin) (gd : Bool → Bool) (lv : List Value → List Value) : Result → Sem Fin := fun r => ((match r with | .ok f => (.pure f : Sem Flow) | .error e => .raise e).onRaise hx).wrap K H gd lv
theorem seg_For {target iter : PySem.Expr} {body orelse : List Stmt} {pos : Pos} (hs : ∀ x, foldedSetIterable iter env x = pure x)
    (h : wpAny M (A.over c fs) (eval iter env) (fun x s₁ => wpAny M (A.over c fs) (pyIter x) (fun it s₂ =>
      ∀ p hx, Seg M A R Y n s₀ (.forLoop target it body orelse env) (M.den (.forLoop target it body orelse env)) (.ret (backOwn hx K H gd lv) none (gd false) (lv []) c p [] :: fs) s₂)
      (fun x s' => Seg M A R Y n s₀ c (H x) fs s') s₁) (fun x s' => Seg M A R Y n s₀ c (H x) fs s') s) :
    Seg M A R Y n s₀ c ((exec (.For target iter body orelse pos) env).wrap K H gd lv) fs s := by
  rw [exec_For]
  refine seg_wbind (wpAny_standAt ?_)
  refine seg_wbind (wpAny_mono h (fun x s₁ h₁ => ?_) fun _ _ x => x)
  refine seg_wbind (wpAny_of_eq (hs x) ?_)
  refine seg_wbind (wpAny_standAt ?_)
  refine seg_wbind (wpAny_holding (wpAny_mono h₁ (fun it s₂ h₂ => ?_) fun _ _ x => x))
  exact seg_call fun p => h₂ p _
end
section
variable {prog : Program} {w : World} {A : Around} {R : GenEnd} {Y : Protocol} {n : Nat} {s₀ : Shared} {fs : List PySem.Frame} {s : Shared} {env : Env}
abbrev noteH (e : Value) (env : Env) : Sem Fin := (do noteFrame e env; theTreesLotGoes e : Sem Unit).wrap (fun _ => .raise e) .raise id id
theorem seg_forLoop {target : PySem.Expr} {it : Value} {body orelse : List Stmt} (ht : ∀ v, letOwnedTupleGo target it v = pure ())
    (h : wpAny (model prog w) (A.over (.forLoop target it body orelse env) fs) (pyNext it) (fun r s₁ => match r with
      | none => Seg (model prog w) A R Y n s₀ (.forLoop target it body orelse env) (.pure (.again (.block orelse env))) fs s₁
      | some v => wpAny (model prog w) (A.over (.forLoop target it body orelse env) fs) (assign target env v) (fun _ s₂ =>
          Seg (model prog w) A R Y n s₀ (.forLoop target it body orelse env) ((execs body env).wrap (fun f => match f with
            | .next | .cont => .pure (.again (.forLoop target it body orelse env))
            | .brk => .pure (.done .next)
            | .ret v => .pure (.done (.ret v))) (fun e => noteH e env) id id) fs s₂) (fun _ _ => False) s₁) (fun _ _ => False) s) :
    Seg (model prog w) A R Y n s₀ (.forLoop target it body orelse env) ((model prog w).den (.forLoop target it body orelse env)) fs s := by
  show Seg _ A R Y n s₀ _ ((forTurn target it body orelse env).onRaise (fun x => do noteFrame x env; theTreesLotGoes x)) fs s
  unfold forTurn
  rw [Sem.onRaise_eq_wrap]
  refine seg_wbind (wpAny_standAt ?_)
  refine seg_wbind (wpAny_onRaise (wpAny_mono h (fun r s₁ h₁ => ?_) fun _ _ x => x.elim))
  cases r with
  | none => exact h₁
  | some v =>
    refine seg_wbind (wpAny_of_eq (ht v) ?_)
    refine seg_wbind (wpAny_mono h₁ (fun _ s₂ h₂ => ?_) fun _ _ x => x.elim)
    rw [bind_wrap]
    rw [Sem.wrap_congr (execs body env) _ _ (K' := fun f => match f with
            | .next | .cont => .pure (.again (.forLoop target it body orelse env))
            | .brk => .pure (.done .next)
            | .ret v => .pure (.done (.ret v))) (H' := fun e => noteH e env) (fun f => by cases f <;> rfl) (fun e => by rw [Sem.bind_eq_wrap])]
    exact h₂
end
end Mine

end
section
open PySem PySem.W PyProof.Rows PySem.Spec PySem.Calls PyProof.Rows.LCg
open Sem (wp)
set_option Elab.async false
set_option maxRecDepth 100000
set_option maxHeartbeats 8000000
namespace Mine
section
variable {prog : Program} {w : World} {A : Around} {E : Value → Shared → Prop} {s : Shared}
theorem wpAny_pyNext_genQ {a : Addr} {g n : Nat} {gs : GenState} {P : Nat → Shared → Shared → Prop} {Y : Protocol} {Q : Option Value → Shared → Prop} (hh : A.handled = none)
    (hl : s.heap.NoLimit) (hroom : A.depth < recursionLimit)
    (hg : s.heap.IsGen a g) (hgs : s.gens[g]? = some gs)
    (hgo : gs.Goes (model prog w) A.in1 (fun n s₀ r s₁ => r = .ok (.ret .none) ∧ P n s₀ s₁) Y n (.send .none) (s.setGen g .running))
    (hY : ∀ v s₁ gs', gs'.bare = true → Y (n - 1) (s.setGen g .running) v s₁ (fun r' s'' => match n with
        | 0 => False
        | m + 1 => gs'.Goes (model prog w) A.in1 (fun n s₀ r s₁ => r = .ok (.ret .none) ∧ P n s₀ s₁) Y m r' s'') → Q (some v) (s₁.setGen g gs'))
    (hP : ∀ s₁, P n (s.setGen g .running) s₁ → ∀ h', (∀ b o, s₁.heap.get? b = some o → h'.get? b = some o) → Q none { s₁.setGen g .finished with heap := h' }) :
    wpAny (model prog w) A (pyNext (.ref a)) Q E s := by
  unfold pyNext
  refine wpAny_bind (wpAny_attempt (wpAny_callSpecial?_slot (name := Str.ofString "__next__") hg.typeIs slot_gen_next
    (wpAny_call_entry slot_gen_next hg.typeIs entry_gen_next ?_ (args_gen_next _))))
  show wpAny _ A.in1 (Builtin.Generator.genWake (.ref a) (.send .none)) _ _ s
  unfold Builtin.Generator.genWake
  refine wpAny_bind (wpAny_holding (wpAny_genNumber hg (wpAny_bind (wpAny_genState hgs ?_))))
  cases gs with
  | running => exact hgo.elim
  | finished => exact hgo.elim
  | _ =>
    refine wpAny_bind (wpAny_roomToWake hl hroom ?_)
    show wpAny _ A.in1 (.resume g (.send .none) [] _) _ _ s
    refine wpAny_resumeQ hgs hgo (fun x s₁ hx => ?_) (fun v s₁ gs' hb hv => ?_)
    · obtain ⟨rfl, hp⟩ := hx
      show wpAny _ A.in1 (newExc (.type "StopIteration") [] >>= _) _ _ _
      refine wpAny_bind ?_
      simp only [newExc, newTuple]
      refine wpAny_bind (wpAny_newObj_type ?_ (by size_fits))
      refine wpAny_bind (m := firstArgMember _ _) (wpAny_of_eq (a := Value.none) (by first | rfl | (simp only [firstArgMember]; rfl)) ?_)
      refine wpAny_newObj_type ?_ (by size_fits)
      simp only [raiseNew]
      refine wpAny_bind (wpAny_bind (wpAny_handled ?_))
      first | rw [show A.in1.handled = none from hh] | rw [hh]
      refine wpAny_throw ?_
      refine wpAny_bind (wpAny_isInstance (T := "StopIteration") (b := true) ⟨_, Heap.get?_push_size _ rfl, rfl⟩ isSubtype_stop ?_)
      exact wpAny_pure (hP s₁ hp _ fun b o hb => Heap.get?_push_of_some _ (Heap.get?_push_of_some _ hb))
    · exact wpAny_pure ⟨v, rfl, wpAny_pure (hY v s₁ gs' hb hv)⟩
end
/-- where the ruler's reader stands -/
inductive GS where
  | fresh
  | loop (i : Nat) (last : Int)
  | forever (z : Int)
noncomputable def gstep (ns : List Int) (i : Nat) (last : Option Int) : Option (Int × GS) :=
  match ns[i]? with
  | none => none
  | some x => if x = 127 then none else if x = 0 then (match last with | some z => some (z, .forever z) | none => none) else some (x, .loop (i + 1) x)
noncomputable def GS.next (ns : List Int) : GS → Option (Int × GS)
  | .forever z => some (z, .forever z)
  | .fresh => gstep ns 0 none
  | .loop i last => gstep ns i (some last)
noncomputable def stK (ns : List Int) : Nat → GS
  | 0 => .fresh
  | k + 1 => match (stK ns k).next ns with | some (_, st') => st' | none => stK ns k
abbrev literOf (l : Addr) (i : Nat) : Obj := { cls := .type "list_iterator", data := .fields #[.ref l, .int i 0] }
/-- the reader's own objects: its frame, its iterator -/
noncomputable def GObjs (h₀ : Heap) (Lg rul It : Addr) : GS → Heap → Prop
  | .fresh, h => ∃ m, h.Ns Lg m ∧ m (Str.ofString "grouping") = some (.ref rul)
  | .loop i x, h => ∃ m t, h.Ns Lg m ∧ h.IsListIter It rul i ∧ It ≠ Lg ∧ h₀.get? It = none ∧ m (Str.ofString "interval") = some (.int x t)
  | .forever z, h => ∃ m t, h.Ns Lg m ∧ m (Str.ofString "last_interval") = some (.int z t)
def GInv (h₀ : Heap) (Lg rul It : Addr) (its : Array Value) (nl : Nat) (st : GS) (h : Heap) : Prop :=
  h.get? rul = some (W.listOf its nl) ∧ (∀ b o, h₀.get? b = some o → h.get? b = some o) ∧ GObjs h₀ Lg rul It st h
def isIt (o : Obj) : Prop := ∃ x i, o.data = .fields #[x, .int i 0]
/-- what a turn of the reader leaves as it was -/
def GKept (Lg : Addr) (s₀ s₁ : Shared) : Prop :=
  (∃ h tk, s₁ = { s₀ with heap := h, toks := tk }) ∧ ∀ b o, s₀.heap.get? b = some o → b ≠ Lg → ¬ isIt o → s₁.heap.get? b = some o
theorem GKept.refl (Lg : Addr) (s : Shared) : GKept Lg s s := ⟨⟨_, _, rfl⟩, fun _ _ e _ _ => e⟩
/-- the reader at work -/
structure RI (h₀ : Heap) (Lg rul : Addr) (its : Array Value) (nl : Nat) (s₀ s : Shared) (m : Str → Option Value) : Prop where
  rul : s.heap.get? rul = some (W.listOf its nl)
  keep : ∀ b o, h₀.get? b = some o → s.heap.get? b = some o
  kept : GKept Lg s₀ s
  ns : s.heap.Ns Lg m
section
variable {h₀ h' : Heap} {Lg rul It : Addr} {its : Array Value} {nl i : Nat} {s₀ s : Shared} {m m' : Str → Option Value}
theorem RI.fr (x : RI h₀ Lg rul its nl s₀ s m) (ha : h₀.objs.size ≤ Lg) : Fr h₀ Lg s.heap m := ⟨x.ns, x.keep, ha⟩
theorem RI.list (x : RI h₀ Lg rul its nl s₀ s m) : s.heap.IsList rul its := ⟨_, x.rul, rfl, nl, rfl⟩
theorem RI.store {tk : Nat} (x : RI h₀ Lg rul its nl s₀ s m) (hr : rul ≠ Lg) (ha : h₀.objs.size ≤ Lg) (hs : Heap.SameBut Lg s.heap h') (hn : h'.Ns Lg m') : RI h₀ Lg rul its nl s₀ { s with heap := h', toks := tk } m' := by
  refine ⟨(hs.2 _ hr).trans x.rul, fun b o e => (hs.2 _ ?_).trans (x.keep b o e), ⟨?_, fun b o e h1 h2 => (hs.2 _ h1).trans (x.kept.2 b o e h1 h2)⟩, hn⟩
  · exact Nat.ne_of_lt (Nat.lt_of_lt_of_le (Heap.lt_size e) ha)
  · obtain ⟨⟨h, t, rfl⟩, _⟩ := x.kept
    exact ⟨_, _, rfl⟩
theorem RI.tok (x : RI h₀ Lg rul its nl s₀ s m) (tk : Nat) : RI h₀ Lg rul its nl s₀ { s with toks := tk } m := by
  refine ⟨x.rul, x.keep, ⟨?_, x.kept.2⟩, x.ns⟩
  obtain ⟨⟨h, t, rfl⟩, _⟩ := x.kept
  exact ⟨_, _, rfl⟩
theorem RI.push (x : RI h₀ Lg rul its nl s₀ s m) (o : Obj) : RI h₀ Lg rul its nl s₀ { s with heap := s.heap.push o } m := by
  refine ⟨Heap.get?_push_of_some _ x.rul, fun b o e => Heap.get?_push_of_some _ (x.keep b o e), ⟨?_, fun b o e h1 h2 => Heap.get?_push_of_some _ (x.kept.2 b o e h1 h2)⟩, ?_⟩
  · obtain ⟨⟨h, t, rfl⟩, _⟩ := x.kept
    exact ⟨_, _, rfl⟩
  · obtain ⟨oL, ho, hN⟩ := ns_obj x.ns
    exact hN.ns (Heap.get?_push_of_some _ ho)
theorem RI.iter (x : RI h₀ Lg rul its nl s₀ s m) (hi : s.heap.IsListIter It rul i) (hn : It ≠ Lg) (h0 : h₀.get? It = none) (hs : Heap.ExtBut It s.heap h') : RI h₀ Lg rul its nl s₀ { s with heap := h' } m := by
  obtain ⟨oI, hoI, hc, hd⟩ := hi
  refine ⟨hs _ _ ?_ x.rul, fun b o e => hs _ _ ?_ (x.keep b o e), ⟨?_, fun b o e h1 h2 => hs _ _ ?_ (x.kept.2 b o e h1 h2)⟩, ?_⟩
  · rintro rfl
    rw [x.rul] at hoI
    cases hoI
    injection hc with e
    exact absurd e (by decide)
  · rintro rfl
    rw [h0] at e; cases e
  · obtain ⟨⟨h, t, rfl⟩, _⟩ := x.kept
    exact ⟨_, _, rfl⟩
  · rintro rfl
    have := x.kept.2 _ o e h1 h2
    rw [hoI] at this
    cases this
    exact h2 ⟨_, _, hd⟩
  · obtain ⟨oL, ho, hN⟩ := ns_obj x.ns
    exact hN.ns (hs _ _ (Ne.symm hn) ho)
end
theorem SameBut.ext {a : Addr} {h h' : Heap} (x : Heap.SameBut a h h') : Heap.ExtBut a h h' := fun b o hb e => (x.2 b hb).trans e
theorem loop_ind {M : Model} {A : Around} {R : GenEnd} {Y : Protocol} {c : Code} {t : Sem Fin} {fs : List PySem.Frame} {I : Nat → Nat → Option Int → Shared → Shared → Prop}
    (step : ∀ n i o s₀ s, I n i o s₀ s → (∀ n' i' o' s₀' s', n' < n → I n' i' o' s₀' s' → Seg M A R Y n' s₀' c t fs s') → Seg M A R Y n s₀ c t fs s) :
    ∀ n i o s₀ s, I n i o s₀ s → Seg M A R Y n s₀ c t fs s := fun n => Nat.strongRecOn n fun n ih i o s₀ s h => step n i o s₀ s h fun n' i' o' s₀' s' hn h' => ih n' hn i' o' s₀' s' h'
/-- the reader's state behind its k-th yield, and what the next turn starts from -/
def LI (N : Nat) (h₀ : Heap) (Lg rul It : Addr) (its : Array Value) (nl : Nat) (ns : List Int) (n i : Nat) (o : Option Int) (s₀ s : Shared) : Prop :=
  1 ≤ n ∧ n ≤ N ∧ (stK ns (N - n)).next ns = gstep ns i o ∧ s.heap.IsListIter It rul i ∧ It ≠ Lg ∧ h₀.get? It = none ∧
    ∃ m, RI h₀ Lg rul its nl s₀ s m ∧ (match o with | none => i = 0 | some z => ∃ t, m (Str.ofString "last_interval") = some (.int z t))
def WI (N : Nat) (h₀ : Heap) (Lg rul : Addr) (its : Array Value) (nl : Nat) (ns : List Int) (n _i : Nat) (o : Option Int) (s₀ s : Shared) : Prop :=
  1 ≤ n ∧ n ≤ N ∧ ∃ z t m, o = some z ∧ (stK ns (N - n)).next ns = some (z, .forever z) ∧ RI h₀ Lg rul its nl s₀ s m ∧ m (Str.ofString "last_interval") = some (.int z t)
theorem stK_succ {ns : List Int} {k : Nat} {x : Int} {st : GS} (h : (stK ns k).next ns = some (x, st)) : stK ns (k + 1) = st := by
  show (match (stK ns k).next ns with | some (_, st') => st' | none => stK ns k) = st
  rw [h]
noncomputable def GY (N : Nat) (h₀ : Heap) (Lg rul : Addr) (its : Array Value) (nl : Nat) (ns : List Int) : Protocol := fun m s₀ v s₁ kap =>
  (∃ t x, v = .int x t ∧ (stK ns (N - 1 - m)).next ns = some (x, stK ns (N - m))) ∧ GKept Lg s₀ s₁ ∧
    ∃ It, GInv h₀ Lg rul It its nl (stK ns (N - m)) s₁.heap ∧ (1 ≤ m → ∀ s'', GInv h₀ Lg rul It its nl (stK ns (N - m)) s''.heap → kap (.send .none) s'')
def GP (N : Nat) (h₀ : Heap) (Lg : Addr) (ns : List Int) (m : Nat) (s₀ s₁ : Shared) : Prop := (stK ns (N - m)).next ns = none ∧ GKept Lg s₀ s₁ ∧ ∀ b o, h₀.get? b = some o → s₁.heap.get? b = some o
theorem GY.mk {N n : Nat} {h₀ : Heap} {Lg rul : Addr} {its : Array Value} {nl : Nat} {ns : List Int} {s₀ s₁ : Shared} {m : Str → Option Value} {x : Int} {t : Tok} {st : GS} {kap : Resume → Shared → Prop} (hn : n + 1 ≤ N)
    (hx : (stK ns (N - (n + 1))).next ns = some (x, st)) (R : RI h₀ Lg rul its nl s₀ s₁ m) (It : Addr) (ho : GObjs h₀ Lg rul It st s₁.heap)
    (hk : 1 ≤ n → ∀ s'', GInv h₀ Lg rul It its nl st s''.heap → kap (.send .none) s'') : GY N h₀ Lg rul its nl ns n s₀ (.int x t) s₁ kap := by
  have e1 : N - 1 - n = N - (n + 1) := sub_d
  have e2 : stK ns (N - n) = st := by
    have := stK_succ hx
    rwa [sub_a hn] at this
  refine ⟨⟨t, x, rfl, ?_⟩, R.kept, It, ?_, ?_⟩
  · rw [e1, e2]; exact hx
  · rw [e2]; exact ⟨R.rul, R.keep, ho⟩
  · rw [e2]; exact hk
section
variable {prog : Program} {w : World} {A : Around} {s : Shared} {K : Frag} {h₀ : Heap} {L : Addr} {m mg mb : Str → Option Value} {p : Program} {loose : List Str} {mean : ExcName → Option Value}
theorem code_gen {R : Result → Shared → Prop} {name qual : Str} {params : Arguments} {body : List Stmt} {scope : Scope} {dV kV doc pm cdv ct oc : Value} {an od : Option Addr} {osl : Array (Option Value)} {f : Addr} {args : Args} {binds : List (Str × Value)}
    (F : Fr h₀ L s.heap m) (X₀ : K.In h₀) (T : Top p loose mean mg mb h₀) (ho : K.lookup f = some ⟨oc, od, .func (fnOf name qual params body scope dV kV doc pm an cdv ct), osl⟩) (hcd : codeIn K cdv qual = true) (hroom : A.depth < recursionLimit)
    (hbind : BindsTo s (fnOf name qual params body scope dV kV doc pm an cdv ct) args binds) (hloc : ∀ y ∈ binds, scope.names.lookup y.1 = some .local)
    (h : ∀ h₁ : Heap, h₁.Ns s.heap.objs.size (fun y => binds.reverse.lookup y) → (∀ b o, s.heap.get? b = some o → h₁.get? b = some o) →
      R (.ok (.ret (.ref h₁.objs.size))) { s with gens := s.gens.push (.fresh (.func body (envOf qual scope s.heap.objs.size f cdv))), toks := s.toks + binds.length + 1 + 1,
                                                  heap := h₁.push { cls := .type "generator", data := .fields #[.int s.gens.size 0, .str name (s.toks + binds.length), .str qual (s.toks + binds.length + 1)] } })
    (hco : scope.isCoroutine = false) (hgen : scope.isGenerator = true) (hk : scope.kind = .function)
    (hcell : ∀ x ∈ scope.names, x.2 ≠ .cell) : codeAny (model prog w) A (.call (.ref f) args) R s := by
  refine codeAny_call_generator (fd := fnOf name qual params body scope dV kV doc pm an cdv ct) hroom ((X₀.keeps F.keep) _ _ ho) rfl hco hgen rfl (codeRec_of (X₀.keeps F.keep) hcd) ?_
  refine hbind _ _ _ _ ?_
  refine wpAny_newFunctionEnv hcell hloc (fun h₁ hns hsb => ⟨(T.nolimit.keeps F.keep).fresh _ hsb, ?_⟩) hk
  exact h h₁ hns fun b o e => hsb.extBut b o (Nat.ne_of_lt (Heap.lt_size e)) (Heap.get?_push_of_some _ e)
end
theorem intsAre_get : ∀ {vs : List Value} {ns : List Int}, IntsAre vs ns → ∀ {i : Nat} {v : Value}, vs[i]? = some v → ∃ z t, v = .int z t ∧ ns[i]? = some z := by
  intro vs ns h
  induction h with
  | nil => intro i v e; simp at e
  | cons n t _ ih =>
    intro i v e
    cases i with
    | zero => simp at e; exact ⟨n, t, e.symm, rfl⟩
    | succ i => simp only [List.getElem?_cons_succ] at e ⊢; exact ih e
theorem intsAre_get' {a : Array Value} {ns : List Int} (h : IntsAre a.toList ns) {i : Nat} {v : Value} (e : a[i]? = some v) : ∃ z t, v = .int z t ∧ ns[i]? = some z := intsAre_get h (by rw [Array.getElem?_toList]; exact e)
theorem intsAre_none {a : Array Value} {ns : List Int} (h : IntsAre a.toList ns) {i : Nat} (e : a[i]? = none) : ns[i]? = none := by
  have hl : ∀ {vs : List Value} {ns : List Int}, IntsAre vs ns → vs.length = ns.length := by
    intro vs ns h
    induction h with
    | nil => rfl
    | cons n t _ ih => simp [ih]
  have := hl h
  rw [Array.getElem?_eq_none_iff] at e
  rw [List.getElem?_eq_none_iff, ← this]
  simpa using e
theorem gstep_end {ns : List Int} {i : Nat} {o : Option Int} (h : ns[i]? = none) : gstep ns i o = none := by unfold gstep; rw [h]
theorem gstep_max {ns : List Int} {i : Nat} {o : Option Int} (h : ns[i]? = some 127) : gstep ns i o = none := by unfold gstep; rw [h]; rfl
theorem gstep_zero {ns : List Int} {i : Nat} {z : Int} (h : ns[i]? = some 0) : gstep ns i (some z) = some (z, .forever z) := by unfold gstep; rw [h]; rfl
theorem gstep_go {ns : List Int} {i : Nat} {o : Option Int} {x : Int} (h : ns[i]? = some x) (h1 : x ≠ 127) (h2 : x ≠ 0) : gstep ns i o = some (x, .loop (i + 1) x) := by unfold gstep; rw [h]; simp only [if_neg h1, if_neg h2]

abbrev GEnd (N : Nat) (h₀ : Heap) (Lg : Addr) (ns : List Int) : GenEnd := fun n s₀ r s₁ => r = .ok (.ret .none) ∧ GP N h₀ Lg ns n s₀ s₁
end Mine

end
section
open PySem PySem.W PyProof.Rows PySem.Spec PySem.Calls PyProof.Rows.LCg
open Sem (wp)
set_option Elab.async false
set_option maxRecDepth 100000
set_option maxHeartbeats 8000000
namespace Mine
theorem freshGenR : True := by
  w_top off
  trivial
theorem fillR : (fun (_ : OpenLaw) (_ : Params → Frag) => True) PySem.Challenge.rw_tp0024_01 hd.heap_39 := by
  k_fill
  trivial
variable (w : World) (mean : ExcName → Option Value) (mg mb : Str → Option Value)
theorem gen_c (rul : Addr) (its : Array Value) (nl : Nat) (ns : List Int) (N : Nat) (news : List (Addr × Obj)) :
  ∀ (dp un : Nat) (gd : Option (List Code)) (cn : Str) (cs : Scope) (a : Addr) (ccd : Value) (cl : List (Str × Addr)) (outer : List Env) (A₀ : Around) (base h₀ : Heap) (L : Addr) (m : Str → Option Value) (s : Shared) (Q E : Value → Shared → Prop),
    Below A₀ base outer h₀ → Fr h₀ L s.heap m → (hd.heap_39 w.params).In h₀ → News h₀ L s.heap news → Top hd.view_39 LO mean mg mb h₀ → cs.kind = .function →
      ((rul, W.listOf its nl) ∈ news ∧ IntsAre its.toList ns ∧ ns[0]? ≠ some 0) → dp + 3 < recursionLimit → un + 24 < cLine →
      (∀ G Lg oL oG gs h' tk', Fr h₀ L h' m → News h₀ L h' ((G, oG) :: (Lg, oL) :: news) → h'.IsGen G s.gens.size → gs.bare = true → (∃ m', NsObj oL m' ∧ m' (Str.ofString "grouping") = some (.ref rul)) → (∀ p ∈ news, p.1 < Lg) → Lg < G →
        (1 ≤ N → ∀ s', GInv h₀ Lg rul 0 its nl .fresh s'.heap → gs.Goes (model PG w) (ktrTop dp un gd cn cs L a ccd cl outer).in1 (GEnd N h₀ Lg ns) (GY N h₀ Lg rul its nl ns) N (.send .none) s') →
        Q (.ref G) { s with heap := h', gens := s.gens.push gs, toks := tk' }) →
      wpAny (model PG w) (ktrTop dp un gd cn cs L a ccd cl outer) (call (.ref 59) [.ref rul] []) Q E s := by
  rintro dp un gd cn cs aa ccd cl outer A₀ base h₀ L m s Q E hB hF hX hN hT hcs ⟨hl, hints, hgood⟩ hdp hun hret
  refine wpAny_call ?_
  refine' code_gen ?k2 ?k3 ?k5 ?k6 ?k7 ?k8 ?k9 ?kB ?_ ?c2 ?c3 ?c4 ?c5
  case k2 => exact hF
  case k3 => exact hX
  case k5 => exact hT
  case k6 => k_is
  case k7 => k_is
  case k8 => ktr_room
  case k9 => exact BindsTo.of_eq rfl
  case c5 => decide
  case kB => exact locs rfl
  case c2 => exact rfl
  case c3 => exact rfl
  case c4 => exact rfl
  intro h₁ hns hold
  dsimp only
  have hLs : s.heap.objs.size < h₁.objs.size := hns.lt
  obtain ⟨oL, hoL, hNs⟩ := ns_obj hns
  have F₁ : Fr h₀ L h₁ m := hF.keeps hold
  have N₁ : News h₀ L h₁ ((s.heap.objs.size, oL) :: news) := fun p hp => by
    rcases List.mem_cons.mp hp with rfl | hp
    · exact ⟨hoL, Nat.ne_of_gt hF.ns.lt, hF.fresh⟩
    · exact ⟨hold _ _ (hN p hp).1, (hN p hp).2⟩
  refine' hret h₁.objs.size s.heap.objs.size oL _ _ _ _ (F₁.push _) (N₁.push F₁ _) ?c rfl ?d ?e hLs ?f
  case c => exact ⟨_, _, _, Heap.get?_push_size _ rfl, rfl, rfl, rfl⟩
  case d => exact ⟨_, hNs, rfl⟩
  case e => exact fun p hp => Heap.lt_size (hN p hp).1
  case f =>
    rintro hN1 s' ⟨hrul, hkeep, m', Ns', hm'⟩
    refine ⟨rfl, ?_⟩
    have ha : h₀.objs.size ≤ s.heap.objs.size := Nat.le_of_lt (Nat.lt_of_le_of_lt hF.above hF.ns.lt)
    have hrne : rul ≠ s.heap.objs.size := Nat.ne_of_lt (Heap.lt_size (hN _ hl).1)
    have hr0 : h₀.get? rul = none := (hN _ hl).2.2
    have R0 : RI h₀ s.heap.objs.size rul its nl s' s' m' := ⟨hrul, hkeep, GKept.refl _ _, Ns'⟩
    generalize hLg : s.heap.objs.size = Lg at *
    have Ng : ∀ h, News h₀ Lg h [] := fun _ => News.nil
    clear hret hns hNs F₁ N₁ hF hN hB
    refine seg_func ?_
    refine seg_execs_cons ?_
    refine seg_Plain ?_
    refine wpAny_Assign_Name (wpAny_Constant_none ?_)
    refine wpAny_storeName_local (env := envOf _ _ _ _ _) ?a1 R0.ns (fun h2 hn2 hs2 => ?_)
    case a1 => exact rfl
    have R1 := R0.store (tk := s'.toks + 1) hrne ha hs2 hn2
    dsimp only
    refine seg_execs_cons ?_
    refine seg_For (fun _ => rfl) ?_
    have Fg := R1.fr ha
    have Ngg := Ng h2
    rw [fr_know hm'] at Fg
    k_steps
    refine wpAny_pyIter_list R1.list ?_
    intro p hx9
    have R2 := R1.push (literOf rul 0)
    have hIt : Heap.IsListIter (h2.push (literOf rul 0)) h2.objs.size rul 0 := ⟨_, Heap.get?_push_size _ rfl, rfl, rfl⟩
    have hItL : h2.objs.size ≠ Lg := Nat.ne_of_gt (R1.ns.lt)
    have hIt0 : h₀.get? h2.objs.size = none := Heap.get?_none_of_le (Nat.le_trans ha (Nat.le_of_lt R1.ns.lt))
    generalize hItn : h2.objs.size = It at *
    clear hn2 hs2 Fg Ngg
    refine loop_ind (I := LI N h₀ Lg rul It its nl ns) ?step N 0 none _ _ ?init
    case init => exact ⟨hN1, Nat.le_refl _, by rw [Nat.sub_self]; rfl, hIt, hItL, hIt0, _, R2, rfl⟩
    clear R0 R1 R2 hIt hm' hN1 hItn
    intro n i o s₀ s₁ hI ih
    obtain ⟨hn1, hnN, hnx, hit, -, -, m₁, R, ho⟩ := hI
    refine seg_forLoop (fun _ => rfl) ?_
    cases hx : its[i]? with
    | none =>
      refine wpAny_pyNext_list_end ?e1 hit R.list hx (fun h3 e3 => ?_)
      case e1 => exact rfl
      have R3 := R.iter hit hItL hIt0 e3
      dsimp only
      exact seg_again rfl (seg_leaf (.ok .next) (seg_end (.ok (.ret .none)) ⟨rfl, hnx.trans (gstep_end (intsAre_none hints hx)), R3.kept, R3.keep⟩))
    | some x =>
      refine wpAny_pyNext_list_item hit R.list hx (fun h3 hit3 e3 => ?_)
      have R3 := R.iter hit hItL hIt0 (SameBut.ext e3)
      dsimp only
      refine wpAny_assign_Name (wpAny_storeName_local (env := envOf _ _ _ _ _) ?a1 R3.ns (fun h4 hn4 hs4 => ?_))
      case a1 => exact rfl
      have R4 := R3.store (tk := s₁.toks + 1) hrne ha hs4 hn4
      have hit4 : h4.IsListIter It rul (i + 1) := by
        obtain ⟨oI, q1, q2, q3⟩ := hit3
        exact ⟨oI, (hs4.2 _ hItL).trans q1, q2, q3⟩
      refine seg_execs_cons ?_
      refine seg_If ?_
      obtain ⟨z, t, rfl, hz⟩ := intsAre_get' hints hx
      have Fg := R4.fr ha
      have Ngg := Ng h4
      clear hn4 hs4 e3 R3 hit3
      k_steps
      rotate_left
      · rename_i hz1
        refine seg_execs_nil ?_
        dsimp only
        refine seg_execs_cons ?_
        refine seg_If ?_
        k_steps
        rotate_left
        · rename_i hz2
          refine seg_execs_nil ?_
          dsimp only
          refine seg_execs_cons ?_
          obtain ⟨n, rfl⟩ := one_more hn1
          refine seg_Expr_Yield rfl rfl rfl ?_
          k_steps
          rename_i kap hk
          refine GY.mk hnN (hnx.trans (gstep_go hz hz1 hz2)) (R4.tok _) It ⟨_, t, R4.ns, hit4, hItL, hIt0, rfl⟩ ?_
          rintro hn2 s'' ⟨hr'', hk'', m5, t5, hn5, hit5, -, -, hm5⟩
          refine hk .none s'' ?_
          have R5 : RI h₀ Lg rul its nl s'' s'' m5 := ⟨hr'', hk'', GKept.refl _ _, hn5⟩
          dsimp only
          refine seg_execs_cons ?_
          refine seg_Plain ?_
          have F5 := R5.fr ha
          have N5 := Ng s''.heap
          rw [fr_know hm5] at F5
          refine wpAny_Assign_Name ?_
          refine wpAny_mono (Q := fun v s' => v = .int z t5 ∧ s' = s'') ?hev (fun v s' hv => ?_) fun _ _ e => e
          case hev =>
            k_steps
          obtain ⟨e1, e2⟩ := hv
          rw [e1, e2]
          clear e1 e2
          refine wpAny_storeName_local (env := envOf _ _ _ _ _) ?a2 R5.ns (fun h6 hn6 hs6 => ?_)
          case a2 => exact rfl
          have R6 := R5.store (tk := s''.toks + 1) hrne ha hs6 hn6
          dsimp only
          refine seg_execs_nil ?_
          dsimp only
          have hst := stK_succ (hnx.trans (gstep_go hz hz1 hz2))
          rw [sub_a hnN] at hst
          refine seg_again rfl (ih n (i + 1) (some z) s'' _ (Nat.lt_succ_self _) ⟨hn2, Nat.le_of_succ_le hnN, by rw [hst]; rfl, ?_, hItL, hIt0, _, R6, t5, ?_⟩)
          · obtain ⟨oI, q1, q2, q3⟩ := hit5
            exact ⟨oI, (hs6.2 _ hItL).trans q1, q2, q3⟩
          · exact if_pos rfl
        · rename_i hz2
          subst hz2
          cases o with
          | none =>
            subst ho
            exact absurd hz hgood
          | some y =>
            obtain ⟨ty, hy⟩ := ho
            have hm4 : (fun x => if x = Str.ofString "interval" then some (Value.int 0 t) else m₁ x) (Str.ofString "last_interval") = some (.int y ty) := (if_neg (by decide)).trans hy
            rw [fr_know hm4] at Fg
            dsimp only at Fg
            refine seg_execs_cons ?_
            refine seg_Plain ?_
            k_steps
            dsimp only
            refine seg_execs_cons ?_
            refine seg_While ?_
            intro p2
            refine loop_ind (I := WI N h₀ Lg rul its nl ns) ?wstep n 0 (some y) _ _ ?winit
            case winit => exact ⟨hn1, hnN, y, ty, _, rfl, hnx.trans (gstep_zero hz), R4.tok _, hm4⟩
            clear R4 hm4 hit4 Fg Ngg hy hnx hnN hn1 ih R hit hx hz
            intro n i2 o2 s2 s3 hW ihw
            obtain ⟨hn1, hnN, y2, t2, m2, rfl, hnx, R2, hm2⟩ := hW
            have F2 := R2.fr ha
            have N2 := Ng s3.heap
            rw [fr_know hm2] at F2
            refine seg_whileLoop ?_
            k_steps
            refine seg_execs_cons ?_
            obtain ⟨n, rfl⟩ := one_more hn1
            refine seg_Expr_Yield rfl rfl rfl ?_
            k_steps
            rename_i kap hk
            refine GY.mk hnN hnx (R2.tok _) 0 ⟨_, t2, R2.ns, hm2⟩ ?_
            rintro hn2 s'' ⟨hr'', hk'', m5, t5, hn5, hm5⟩
            refine hk .none s'' ?_
            have R5 : RI h₀ Lg rul its nl s'' s'' m5 := ⟨hr'', hk'', GKept.refl _ _, hn5⟩
            have hst := stK_succ hnx
            rw [sub_a hnN] at hst
            exact seg_again rfl (ihw n 0 (some y2) s'' _ (Nat.lt_succ_self _) ⟨hn2, Nat.le_of_succ_le hnN, y2, t5, m5, rfl, by rw [hst]; rfl, R5, hm5⟩)
      · rename_i hz1
        subst hz1
        refine seg_execs_cons ?_
        refine seg_Plain ?_
        k_steps
        exact seg_leaf (.ok (.ret .none)) (seg_end (.ok (.ret .none)) ⟨rfl, hnx.trans (gstep_max hz), R4.kept, R4.keep⟩)
end Mine

end
section
open PySem PySem.W PyProof.Rows PySem.Spec PySem.Calls PyProof.Rows.LCg
open Sem (wp)
set_option Elab.async false
set_option maxRecDepth 100000
set_option maxHeartbeats 8000000
namespace Mine
noncomputable def isItB (o : Obj) : Bool := match o.data with
  | .fields #[_, .int _ _] => true
  | _ => false
theorem isItB_of {o : Obj} (h : isIt o) : isItB o = true := by
  obtain ⟨x, i, e⟩ := h
  unfold isItB
  rw [e]
  rfl
theorem not_isIt {o : Obj} (h : isItB o = false) : ¬ isIt o := fun k => by rw [isItB_of k] at h; cases h
noncomputable def keepG (own nw : List (Addr × Obj)) : List (Addr × Obj) := nw.filter fun p => !(isItB p.2) && own.all fun q => Nat.beq q.1 p.1 == false
theorem mem_keepG {own nw : List (Addr × Obj)} {p : Addr × Obj} (h : p ∈ nw) (hi : isItB p.2 = false) (ha : ∀ q ∈ own, q.1 ≠ p.1) : p ∈ keepG own nw := by
  unfold keepG
  refine List.mem_filter.mpr ⟨h, ?_⟩
  rw [hi]
  refine List.all_eq_true.mpr fun q hq => ?_
  have := ha q hq
  rw [show Nat.beq q.1 p.1 = false from Bool.eq_false_iff.mpr fun e => this (Nat.eq_of_beq_eq_true e)]
  rfl
theorem of_mem_keepG {own nw : List (Addr × Obj)} {p : Addr × Obj} (h : p ∈ keepG own nw) : p ∈ nw ∧ isItB p.2 = false ∧ ∀ q ∈ own, q.1 ≠ p.1 := by
  unfold keepG at h
  obtain ⟨h1, h2⟩ := List.mem_filter.mp h
  rw [Bool.and_eq_true] at h2
  refine ⟨h1, by cases e : isItB p.2 <;> simp_all, fun q hq e => ?_⟩
  have := List.all_eq_true.mp h2.2 q hq
  rw [e] at this
  simp at this
def TurnEndG (h₀ : Heap) (L : Addr) (own : List (Addr × Obj)) (Jn Jend : (Str → Option Value) → List (Addr × Obj) → Prop) (s₁ : Shared) (f : Flow) (s₂ : Shared) : Prop :=
  match f with
  | .ret _ => False
  | .brk => ∃ h' tk m' nw', s₂ = { s₁ with heap := h', toks := tk } ∧ Fr h₀ L h' m' ∧ News h₀ L h' nw' ∧ Jend m' nw'
  | _ => ∃ h' tk m' nw', s₂ = { s₁ with heap := h', toks := tk } ∧ Fr h₀ L h' m' ∧ News h₀ L h' nw' ∧ (∀ q ∈ own, q ∈ nw') ∧ Jn m' (keepG own nw')
theorem push_setGen (gens : Array GenState) (a b : GenState) : (gens.push a).setIfInBounds gens.size b = gens.push b := by
  apply Array.ext_getElem?
  intro i
  rw [Array.getElem?_setIfInBounds]
  by_cases e : gens.size = i
  · subst e
    simp
  · rw [if_neg e, Array.getElem?_push, Array.getElem?_push, if_neg (fun k => e k.symm), if_neg (fun k => e k.symm)]
section
variable {prog : Program} {w : World} {A : Around} {E : Value → Shared → Prop} {s : Shared} {env : Env} {Q : Flow → Shared → Prop} {body : List Stmt}
structure GenLoop (prog : Program) (w : World) (A : Around) (h₀ : Heap) (env : Env) (x : Str) (body : List Stmt) (Q : Flow → Shared → Prop) (E : Value → Shared → Prop) (s₁ : Shared)
    (G Lg : Addr) (oG oL : Obj) (gs : GenState) (gens0 : Array GenState) (rul : Addr) (its : Array Value) (nl : Nat) (ns : List Int) (N : Nat) (nwbig : List (Addr × Obj)) (m : Str → Option Value)
    (J : Nat → (Str → Option Value) → List (Addr × Obj) → Prop) (Jend : (Str → Option Value) → List (Addr × Obj) → Prop) : Prop where
  handled : A.handled = none
  room : A.depth < recursionLimit
  gensEq : s₁.gens = gens0.push gs
  gen : s₁.heap.IsGen G gens0.size
  bare : gs.bare = true
  fr : Fr h₀ env.locals s₁.heap m
  news : News h₀ env.locals s₁.heap nwbig
  memG : (G, oG) ∈ nwbig
  memL : (Lg, oL) ∈ nwbig
  neGL : G ≠ Lg
  nsL : ∃ m', NsObj oL m' ∧ m' (Str.ofString "grouping") = some (.ref rul)
  goes : 1 ≤ N → ∀ s', GInv h₀ Lg rul 0 its nl .fresh s'.heap → gs.Goes (model prog w) A.in1 (GEnd N h₀ Lg ns) (GY N h₀ Lg rul its nl ns) N (.send .none) s'
  nolimit : ∀ h : Heap, (∀ b o, h₀.get? b = some o → h.get? b = some o) → h.NoLimit
  rulIn : ∀ k m nw, J k m nw → (rul, W.listOf its nl) ∈ nw
  bound : ∀ k m nw, J k m nw → k < N
  first : J 0 m (keepG [(G, oG), (Lg, oL)] nwbig)
  turn : ∀ k z t m₁ nw own gs' h tk, J k m₁ nw → (stK ns k).next ns = some (z, stK ns (k + 1)) → gs'.bare = true → Fr h₀ env.locals h (fun y => if y = x then some (.int z t) else m₁ y) → News h₀ env.locals h (own ++ nw) →
    (∀ p ∈ nw, ∀ q ∈ own, q.1 ≠ p.1) → (∀ p ∈ nw, isItB p.2 = false) →
      wpAny (model prog w) A (execs body env) (TurnEndG h₀ env.locals own (J (k + 1)) Jend { s₁ with heap := h, toks := tk, gens := gens0.push gs' }) E { s₁ with heap := h, toks := tk, gens := gens0.push gs' }
  stop : ∀ k m nw, J k m nw → (stK ns k).next ns = none → Jend m nw
  done : ∀ gs' h tk m' nw, gs'.bare = true → Fr h₀ env.locals h m' → News h₀ env.locals h nw → Jend m' nw → Q .next { s₁ with heap := h, toks := tk, gens := gens0.push gs' }
theorem For_G {x : Str} {px pos : Pos} {iter : PySem.Expr} {m₀ : Str → Option Value} (h₀ : Heap) (_F₀ : Fr h₀ env.locals s.heap m₀) (hx : env.kindOf x = some .local)
    (hp : (env.scope.kind == .class || (env.scope.kind == .module && env.locals != env.globals)) = false)
    (h : wpAny (model prog w) A (eval iter env) (fun xv s₁ => ∃ G Lg oG oL gs gens0 rul its nl ns N nwbig m J Jend, xv = .ref G ∧ GenLoop prog w A h₀ env x body Q E s₁ G Lg oG oL gs gens0 rul its nl ns N nwbig m J Jend) E s)
    (hs : ∀ x, foldedSetIterable iter env x = pure x)
    (hE : PassesOwn (model prog w) A env E) :
    wpAny (model prog w) A (exec (.For (.Name x px) iter body [] pos) env) Q E s := by
  refine wpAny_For (wpAny_mono h (fun xv s₁ h₁ => ?_) fun _ _ e => e) hs
  obtain ⟨G, Lg, oG, oL, gs, gens0, rul, its, nl, ns, N, nwbig, m, J, Jend, rfl, X⟩ := h₁
  refine wpAny_pyIter_gen X.gen ?_
  have hLgn := X.news _ X.memL
  have hGn := X.news _ X.memG
  have pe : ∀ {s' : Shared} {e}, E e s' → notedBy (model prog w) A env (fun e s' => cameBackBy (model prog w) A env E e s') e s' := fun he => hE _ _ he
  refine codeAny_forLoop (I := fun n s => ∃ k h tk gsk own nw m It, n = N - k ∧ s = { s₁ with heap := h, toks := tk, gens := gens0.push gsk } ∧ Fr h₀ env.locals h m ∧ News h₀ env.locals h (own ++ nw) ∧ (G, oG) ∈ own ∧
    (∀ p ∈ nw, ∀ q ∈ own, q.1 ≠ p.1) ∧ (∀ p ∈ nw, isItB p.2 = false) ∧ J k m nw ∧ gsk.bare = true ∧ (∃ oL', (Lg, oL') ∈ own) ∧ (∀ h', (∀ p ∈ own, h'.get? p.1 = some p.2) → GObjs h₀ Lg rul It (stK ns k) h') ∧
    (∀ s', GInv h₀ Lg rul It its nl (stK ns k) s'.heap → gsk.Goes (model prog w) A.in1 (GEnd N h₀ Lg ns) (GY N h₀ Lg rul its nl ns) (N - k) (.send .none) s')) ?turn N ?init (fun _ => rfl)
  case init =>
    refine ⟨0, s₁.heap, s₁.toks, gs, [(G, oG), (Lg, oL)], _, m, 0, rfl, ?_, X.fr, ?_, .head _, ?_, ?_, X.first, X.bare, ⟨oL, .tail _ (.head _)⟩, ?_, ?_⟩
    · rw [← X.gensEq]
    · intro p hp
      rcases List.mem_append.mp hp with hp | hp
      · simp only [List.mem_cons, List.not_mem_nil, or_false] at hp
        rcases hp with rfl | rfl
        · exact hGn
        · exact hLgn
      · exact X.news p (of_mem_keepG hp).1
    · exact fun p hp => (of_mem_keepG hp).2.2
    · exact fun p hp => (of_mem_keepG hp).2.1
    · intro h' hh
      obtain ⟨m', hN, hm⟩ := X.nsL
      exact ⟨m', hN.ns (hh _ (.tail _ (.head _))), hm⟩
    · exact X.goes (X.bound _ _ _ X.first)
  case turn =>
    rintro n s ⟨k, h, tk, gsk, own, nw, m, It, rfl, rfl, F, N', hGo, hap, hit, hJ, hb, ⟨oL', hLo⟩, hobj, hgo⟩
    have hkN := X.bound _ _ _ hJ
    have hrul := X.rulIn _ _ _ hJ
    have hkeep : ∀ b o, h₀.get? b = some o → h.get? b = some o := F.keep
    have hG : h.IsGen G gens0.size := by
      obtain ⟨o, nm, qn, e1, e2, e3, e4⟩ := X.gen
      rw [hGn.1] at e1
      cases e1
      exact ⟨oG, nm, qn, (N' _ (List.mem_append_left _ hGo)).1, e2, e3, e4⟩
    refine wpAny_pyNext_genQ (n := N - k) (Y := GY N h₀ Lg rul its nl ns) (P := GP N h₀ Lg ns) (gs := gsk) X.handled (X.nolimit h hkeep) X.room hG ?_ (hgo _ ?_) ?_ ?_
    · simp
    · exact ⟨(N' _ (List.mem_append_right _ hrul)).1, hkeep, hobj _ fun p hp => (N' _ (List.mem_append_left _ hp)).1⟩
    · -- the next is there
      rintro v s₁' gs' hb' ⟨⟨t, z, rfl, hz⟩, ⟨⟨h2, tk2, rfl⟩, hkept⟩, It', hinv, hkap⟩
      rw [sub_c hkN, sub_b hkN] at hz
      rw [sub_b hkN] at hinv hkap
      obtain ⟨hr2, hk2, hob2⟩ := hinv
      dsimp only at hr2 hk2 hob2 hkept
      have hst : ({ ({ s₁ with heap := h, toks := tk, gens := gens0.push gsk } : Shared).setGen gens0.size .running with heap := h2, toks := tk2 } : Shared).setGen gens0.size gs' = { s₁ with heap := h2, toks := tk2, gens := gens0.push gs' } := by
        show ({ s₁ with heap := h2, toks := tk2, gens := ((gens0.push gsk).setIfInBounds gens0.size .running).setIfInBounds gens0.size gs' } : Shared) = _
        rw [push_setGen, push_setGen]
      rw [hst]
      dsimp only
      -- what is kept
      obtain ⟨oF, hoF, hNF⟩ := ns_obj F.ns
      have hLne : env.locals ≠ Lg := fun e => hLgn.2.1 e.symm
      have hFk : h2.get? env.locals = some oF := hkept _ _ hoF hLne (by
        rintro ⟨x', i', e⟩
        obtain ⟨es, ep, hd, _⟩ := hNF
        rw [hd] at e; cases e)
      have F2 : Fr h₀ env.locals h2 m := ⟨hNF.ns hFk, hk2, F.above⟩
      have N2 : News h₀ env.locals h2 nw := fun p hp => ⟨hkept _ _ (N' _ (List.mem_append_right _ hp)).1 (fun e => hap p hp _ hLo e.symm) (not_isIt (hit p hp)), (N' _ (List.mem_append_right _ hp)).2⟩
      have G2 : h2.get? G = some oG := hkept _ _ (N' _ (List.mem_append_left _ hGo)).1 X.neGL (by
        rintro ⟨x', i', e⟩
        obtain ⟨o, nm, qn, e1, e2, e3, e4⟩ := X.gen
        rw [hGn.1] at e1
        cases e1
        rw [e3] at e
        cases e)
      have hLg2 : ∀ p ∈ nw, Lg ≠ p.1 := fun p hp => hap p hp _ hLo
      have hG2 : ∀ p ∈ nw, G ≠ p.1 := fun p hp => hap p hp _ hGo
      -- the reader's objects
      obtain ⟨own', hN3, hGo3, hap3, ⟨oL3, hLo3⟩, hobj3⟩ : ∃ own', News h₀ env.locals h2 own' ∧ (G, oG) ∈ own' ∧ (∀ p ∈ nw, ∀ q ∈ own', q.1 ≠ p.1) ∧ (∃ oL', (Lg, oL') ∈ own') ∧
          (∀ h', (∀ p ∈ own', h'.get? p.1 = some p.2) → GObjs h₀ Lg rul It' (stK ns (k + 1)) h') := by
        have base : ∀ oL3, h2.get? Lg = some oL3 → News h₀ env.locals h2 [(G, oG), (Lg, oL3)] := fun oL3 e p hp => by
          simp only [List.mem_cons, List.not_mem_nil, or_false] at hp
          rcases hp with rfl | rfl
          · exact ⟨G2, hGn.2⟩
          · exact ⟨e, hLgn.2⟩
        have apart : ∀ oL3, ∀ p ∈ nw, ∀ q ∈ [(G, oG), (Lg, oL3)], q.1 ≠ p.1 := fun oL3 p hp q hq => by
          simp only [List.mem_cons, List.not_mem_nil, or_false] at hq
          rcases hq with rfl | rfl
          · exact hG2 p hp
          · exact hLg2 p hp
        cases e : stK ns (k + 1) with
        | fresh =>
          rw [e] at hob2
          obtain ⟨m', hns, hm'⟩ := hob2
          obtain ⟨oL3, ho3, hN3⟩ := ns_obj hns
          exact ⟨[(G, oG), (Lg, oL3)], base _ ho3, .head _, apart _, ⟨_, .tail _ (.head _)⟩, fun h' hh => ⟨m', hN3.ns (hh _ (.tail _ (.head _))), hm'⟩⟩
        | forever y =>
          rw [e] at hob2
          obtain ⟨m', t', hns, hm'⟩ := hob2
          obtain ⟨oL3, ho3, hN3⟩ := ns_obj hns
          exact ⟨[(G, oG), (Lg, oL3)], base _ ho3, .head _, apart _, ⟨_, .tail _ (.head _)⟩, fun h' hh => ⟨m', t', hN3.ns (hh _ (.tail _ (.head _))), hm'⟩⟩
        | loop i y =>
          rw [e] at hob2
          obtain ⟨m', t', hns, ⟨oI, hoI, hcI, hdI⟩, hne, h0, hm'⟩ := hob2
          obtain ⟨oL3, ho3, hN3⟩ := ns_obj hns
          refine ⟨(It', oI) :: [(G, oG), (Lg, oL3)], ?_, .tail _ (.head _), ?_, ⟨_, .tail _ (.tail _ (.head _))⟩, fun h' hh => ⟨m', t', hN3.ns (hh _ (.tail _ (.tail _ (.head _)))), ⟨oI, hh _ (.head _), hcI, hdI⟩, hne, h0, hm'⟩⟩
          · intro p hp
            rcases List.mem_cons.mp hp with rfl | hp
            · refine ⟨hoI, ?_, h0⟩
              rintro rfl
              rw [hFk] at hoI
              cases hoI
              obtain ⟨es, ep, hd, _⟩ := hNF
              rw [hd] at hdI; cases hdI
            · exact base _ ho3 p hp
          · intro p hp q hq
            rcases List.mem_cons.mp hq with rfl | hq
            · rintro rfl
              rw [(N2 p hp).1] at hoI
              cases hoI
              exact not_isIt (hit p hp) ⟨_, _, hdI⟩
            · exact apart _ p hp q hq
      refine wpAny_assign_Name (wpAny_storeName_local (env := env) hx F2.ns (fun h4 hn4 hs4 => ?_) hp)
      have F4 : Fr h₀ env.locals h4 (fun y => if y = x then some (.int z t) else m y) := ⟨hn4, fun b o e => (hs4.2 _ (fun q => by rw [q, Heap.get?_none_of_le F.above] at e; cases e)).trans (hk2 b o e), F.above⟩
      have N4 : News h₀ env.locals h4 (own' ++ nw) := fun p hp => by
        rcases List.mem_append.mp hp with hp | hp
        · exact ⟨(hs4.2 _ (hN3 p hp).2.1).trans (hN3 p hp).1, (hN3 p hp).2⟩
        · exact ⟨(hs4.2 _ (N2 p hp).2.1).trans (N2 p hp).1, (N2 p hp).2⟩
      refine wpAny_mono (X.turn k z t m nw own' gs' h4 (tk2 + 1) hJ hz hb' F4 N4 hap3 hit) (fun f s₃ hf => ?_) fun e s' he => pe he
      have go : (∃ h' tk m' nw', s₃ = { { s₁ with heap := h4, toks := tk2 + 1, gens := gens0.push gs' } with heap := h', toks := tk } ∧ Fr h₀ env.locals h' m' ∧ News h₀ env.locals h' nw' ∧ (∀ q ∈ own', q ∈ nw') ∧ J (k + 1) m' (keepG own' nw')) →
          ∃ m, m < N - k ∧ ∃ k h tk gsk own nw m_1 It, m = N - k ∧ s₃ = { s₁ with heap := h, toks := tk, gens := gens0.push gsk } ∧ Fr h₀ env.locals h m_1 ∧ News h₀ env.locals h (own ++ nw) ∧ (G, oG) ∈ own ∧
            (∀ p ∈ nw, ∀ q ∈ own, q.1 ≠ p.1) ∧ (∀ p ∈ nw, isItB p.2 = false) ∧ J k m_1 nw ∧ gsk.bare = true ∧ (∃ oL', (Lg, oL') ∈ own) ∧ (∀ h', (∀ p ∈ own, h'.get? p.1 = some p.2) → GObjs h₀ Lg rul It (stK ns k) h') ∧
            (∀ s', GInv h₀ Lg rul It its nl (stK ns k) s'.heap → gsk.Goes (model prog w) A.in1 (GEnd N h₀ Lg ns) (GY N h₀ Lg rul its nl ns) (N - k) (.send .none) s') := by
        rintro ⟨h', tk', m', nw', rfl, F', N'', hsub, hJ'⟩
        have hkN' := X.bound _ _ _ hJ'
        refine ⟨N - (k + 1), Nat.sub_lt_sub_left hkN (Nat.lt_succ_self k), k + 1, h', tk', gs', own', keepG own' nw', m', It', rfl, rfl, F', ?_, hGo3, fun p hp => (of_mem_keepG hp).2.2, fun p hp => (of_mem_keepG hp).2.1, hJ', hb', ⟨oL3, hLo3⟩, hobj3, ?_⟩
        · intro p hp
          rcases List.mem_append.mp hp with hp | hp
          · exact N'' p (hsub p hp)
          · exact N'' p (of_mem_keepG hp).1
        · intro s' hs'
          have := hkap (show 0 < N - (k + 1) from Nat.sub_pos_of_lt hkN') s' hs'
          rw [← sub_a hkN] at this
          exact this
      cases f with
      | ret v => exact hf.elim
      | brk =>
        obtain ⟨h', tk', m', nw', rfl, F', N'', hJ'⟩ := hf
        exact X.done gs' h' tk' m' nw' hb' F' N'' hJ'
      | next => exact go hf
      | cont => exact go hf
    · -- the end
      rintro s₁' ⟨hnone, ⟨⟨h2, tk2, rfl⟩, hkept⟩, hk2⟩ h' hh'
      rw [Nat.sub_sub_self (Nat.le_of_lt hkN)] at hnone
      dsimp only at hkept hk2 hh'
      have hst : ({ ({ ({ s₁ with heap := h, toks := tk, gens := gens0.push gsk } : Shared).setGen gens0.size .running with heap := h2, toks := tk2 } : Shared).setGen gens0.size .finished with heap := h' } : Shared) = { s₁ with heap := h', toks := tk2, gens := gens0.push .finished } := by
        show ({ s₁ with heap := h', toks := tk2, gens := ((gens0.push gsk).setIfInBounds gens0.size .running).setIfInBounds gens0.size .finished } : Shared) = _
        rw [push_setGen, push_setGen]
      rw [hst]
      dsimp only
      obtain ⟨oF, hoF, hNF⟩ := ns_obj F.ns
      have hLne : env.locals ≠ Lg := fun e => hLgn.2.1 e.symm
      have hFk : h2.get? env.locals = some oF := hkept _ _ hoF hLne (by
        rintro ⟨x', i', e⟩
        obtain ⟨es, ep, hd, _⟩ := hNF
        rw [hd] at e; cases e)
      refine wpAny_pure (X.done .finished h' tk2 m nw rfl ⟨hNF.ns (hh' _ _ hFk), fun b o e => hh' _ _ (hk2 b o e), F.above⟩ ?_ (X.stop k m nw hJ hnone))
      exact fun p hp => ⟨hh' _ _ (hkept _ _ (N' _ (List.mem_append_right _ hp)).1 (fun e => hap p hp _ hLo e.symm) (not_isIt (hit p hp))), (N' _ (List.mem_append_right _ hp)).2⟩
end
end Mine

end
section
open PySem PySem.W PyProof.Rows PySem.Spec PySem.Calls
open Sem (wp)
set_option Elab.async false
set_option maxRecDepth 100000
set_option maxHeartbeats 8000000
namespace Mine
theorem slot_sit_next : Slot "set_iterator" "__next__" "set_iterator.__next__" :=
  .of (owner := "set_iterator") (n := "__next__") (by rw [typeLookup_type, builtinLookup_eq_fast]; kernel_rfl) (by decide +kernel) (by decide +kernel) (by decide +kernel)
    (by first | exact .inl (by decide +kernel) | exact .inr (by decide +kernel)) (by rw [isSubtype_type]; kernel_rfl)
theorem slot_sit_iter : Slot "set_iterator" "__iter__" "set_iterator.__iter__" :=
  .of (owner := "set_iterator") (n := "__iter__") (by rw [typeLookup_type, builtinLookup_eq_fast]; kernel_rfl) (by decide +kernel) (by decide +kernel) (by decide +kernel)
    (by first | exact .inl (by decide +kernel) | exact .inr (by decide +kernel)) (by rw [isSubtype_type]; kernel_rfl)
theorem entry_sit_next : entryFor table "set_iterator.__next__" = some Builtin.«set_iterator.__next__» := entryFor_of_tree (by kernel_rfl)
theorem entry_sit_iter : entryFor table "set_iterator.__iter__" = some Builtin.«dict_keyiterator.__iter__» :=
  entryFor_alias (id' := "dict_keyiterator.__iter__") (by kernel_rfl) rfl (by decide +kernel) (by kernel_rfl)
theorem entry_set_iter : entryFor table "set.__iter__" = some Builtin.«frozenset.__iter__» :=
  entryFor_alias (id' := "frozenset.__iter__") (by kernel_rfl) rfl (by decide +kernel) (by kernel_rfl)
theorem owner_sit : Manifest.owners.lookup (String.ofList ['r', 'o', 't', 'a', 'r', 'e', 't', 'i', '_', 't', 'e', 's'].reverse) = some Manifest.sig_set_iterator := by kernel_rfl
theorem args_sit_next (a : Value) : argsOk "set_iterator.__next__" ⟨[a], []⟩ := by
  unfold argsOk; rw [signature?_of (id := "set_iterator.__next__") (n := ['_', '_', 't', 'x', 'e', 'n', '_', '_']) (o := ['r', 'o', 't', 'a', 'r', 'e', 't', 'i', '_', 't', 'e', 's']) (by kernel_rfl) owner_sit]; kernel_rfl
theorem args_sit_iter (a : Value) : argsOk "set_iterator.__iter__" ⟨[a], []⟩ := by
  unfold argsOk; rw [signature?_of (id := "set_iterator.__iter__") (n := ['_', '_', 'r', 'e', 't', 'i', '_', '_']) (o := ['r', 'o', 't', 'a', 'r', 'e', 't', 'i', '_', 't', 'e', 's']) (by kernel_rfl) owner_sit]; kernel_rfl
/-- the order in which a set gives its items -/
noncomputable def byTextOf (w : World) : Bool := w.params.followText "set-order"
noncomputable def setOrd (w : World) (a : Addr) (ep : Nat) (es : Array (Int × Value)) : Array (Int × Value) := if byTextOf w = true then pickOrder (w.params.setOrder a ep) es else es
noncomputable def slotAt (w : World) (t : SetTable) (i : Nat) : Nat := if byTextOf w = true then 0 else (if i = 0 then 0 else t.place.getD (i - 1) 0 + 1)
/-- the table's places are told one after the other -/
noncomputable def tabOK (t : SetTable) (n : Nat) : Bool := t.plain && (List.range n).all (fun i => SetTable.below t.place (if i = 0 then 0 else t.place.getD (i - 1) 0 + 1) == i) && (SetTable.below t.place (if n = 0 then 0 else t.place.getD (n - 1) 0 + 1) == n) && t.fits n
theorem tabOK_at {t : SetTable} {n i : Nat} (h : tabOK t n = true) (hi : i ≤ n) : SetTable.below t.place (if i = 0 then 0 else t.place.getD (i - 1) 0 + 1) = i := by
  unfold tabOK at h
  simp only [Bool.and_eq_true, beq_iff_eq] at h
  rcases Nat.lt_or_eq_of_le hi with h1 | rfl
  · have := List.all_eq_true.mp h.1.1.2 i (List.mem_range.mpr h1)
    simpa using this
  · exact h.1.2
section
variable {prog : Program} {w : World} {A : Around} {E : Value → Shared → Prop} {s : Shared} {r I : Addr} {es : Array (Int × Value)} {ep : Nat} {t : SetTable}
noncomputable def sitObj (w : World) (t : SetTable) (r : Addr) (n ep i : Nat) : Obj := { cls := .type "set_iterator", data := .fields #[.int (slotAt w t i : Nat) 0, .int (i : Nat) 0, .ref r, .int (n : Nat) 0, .int (ep : Nat) 0] }
noncomputable def setObj (es : Array (Int × Value)) (ep : Nat) (t : SetTable) : Obj := { cls := .type "set", dict := none, data := .set es ep t }
theorem byText_ask {Q : Bool → Shared → Prop} (h : Q (byTextOf w) s) : wpAny (model prog w) A setsByText Q E s := by
  unfold setsByText
  exact wpAny_bind (wpAny_askSetting (wpAny_pure h))
theorem setDrawn_ok {Q : Bool → Shared → Prop} (ho : s.heap.get? r = some (setObj es ep t)) (hk : tabOK t es.size = true) (h : Q false s) : wpAny (model prog w) A (setDrawn r) Q E s := by
  have hk' := hk
  unfold tabOK at hk
  simp only [Bool.and_eq_true] at hk
  unfold setDrawn
  refine wpAny_bind (wpAny_setState_of ho rfl hk.2 ?_)
  refine wpAny_bind (byText_ask ?_)
  have e : (!byTextOf w && (!t.plain && decide (es.size > 1))) = false := by rw [hk.1.1.1]; simp
  show wpAny _ _ (pure (!byTextOf w && (!t.plain && decide (es.size > 1)))) _ _ _
  rw [e]
  exact wpAny_pure h
theorem pyIter_set {Q : Value → Shared → Prop} (ho : s.heap.get? r = some (setObj es ep t)) (hk : tabOK t es.size = true)
    (h : Q (.ref s.heap.objs.size) { s with heap := s.heap.push (sitObj w t r es.size ep 0) }) : wpAny (model prog w) A (pyIter (.ref r)) Q E s := by
  have hT : s.TypeIs (.ref r) "set" := ⟨_, ho, rfl⟩
  have hf : t.fits es.size = true := by unfold tabOK at hk; simp only [Bool.and_eq_true] at hk; exact hk.2
  refine wpAny_pyIter_slot hT PySem.F.slot_set_iter (wpAny_call_entry PySem.F.slot_set_iter hT entry_set_iter ?_ (PySem.F.args_set_iter_1 _))
  unfold Builtin.«frozenset.__iter__» Builtin.Frozenset.slot0 slotArgs
  simp only [List.isEmpty_nil, Bool.not_true, Bool.false_eq_true, ↓reduceIte, bind_assoc, List.length_nil, bne_self_eq_false]
  unfold Builtin.Frozenset.addrOf Builtin.Frozenset.sizeOf
  refine wpAny_bind (wpAny_pure ?_)
  try dsimp only
  refine wpAny_bind (wpAny_pure ?_)
  refine wpAny_bind (wpAny_bind (wpAny_setEntries_of ho rfl hf (wpAny_pure ?_)))
  refine wpAny_bind (setDrawn_ok ho hk ?_)
  simp only [Bool.false_eq_true, if_false]
  refine wpAny_bind (wpAny_pure ?_)
  refine wpAny_bind (wpAny_setEpoch_of ho rfl hf ?_)
  refine wpAny_bind (wpAny_newObj_type (wpAny_pure ⟨_, rfl, "set_iterator", _, ⟨_, Heap.get?_push_size _ rfl, rfl⟩, slot_sit_next.lookup, ?_⟩))
  have e : sitObj w t r es.size ep 0 = { cls := .type "set_iterator", data := .fields [rawInt 0, rawInt 0, .ref r, rawInt es.size, rawInt ep].toArray } := by
    unfold sitObj slotAt
    simp only [if_true, ite_self]
    rfl
  rw [e] at h
  exact h
end
end Mine

end
section
open PySem PySem.W PyProof.Rows PySem.Spec PySem.Calls
open Sem (wp)
set_option Elab.async false
set_option maxRecDepth 100000
set_option maxHeartbeats 8000000
namespace Mine
theorem eraseIdx_perm {α : Type} : ∀ (l : List α) (i : Nat) (h : i < l.length), (l[i] :: l.eraseIdx i).Perm l
  | a :: l, 0, _ => List.Perm.refl _
  | a :: l, i + 1, h => by
    have h' : i < l.length := by simpa using h
    show (l[i] :: a :: l.eraseIdx i).Perm (a :: l)
    exact (List.Perm.swap a l[i] _).trans (List.Perm.cons a (eraseIdx_perm l i h'))
theorem pickOrder_go_perm {α : Type} (next : Nat → Nat) : ∀ (fuel k : Nat) (left : List α) (out : Array α), left.length = fuel → (pickOrder.go next fuel k left out).toList.Perm (out.toList ++ left)
  | 0, k, left, out, h => by
    obtain rfl := List.length_eq_zero_iff.mp h
    simp only [pickOrder.go, List.append_nil]
    exact List.Perm.refl _
  | fuel + 1, k, left, out, h => by
    unfold pickOrder.go
    have hlt : next k % left.length < left.length := Nat.mod_lt _ (by omega)
    rw [List.getElem?_eq_getElem hlt]
    dsimp only
    refine (pickOrder_go_perm next fuel (k + 1) _ _ (by rw [List.length_eraseIdx_of_lt hlt]; omega)).trans ?_
    rw [Array.toList_push, List.append_assoc]
    refine List.Perm.append_left _ ?_
    exact eraseIdx_perm left _ hlt
theorem pickOrder_perm {α : Type} (next : Nat → Nat) (xs : Array α) : (pickOrder next xs).toList.Perm xs.toList := by
  unfold pickOrder
  exact (pickOrder_go_perm next xs.size 0 xs.toList #[] Array.length_toList).trans (by simp)
theorem setOrd_perm (w : World) (a : Addr) (ep : Nat) (es : Array (Int × Value)) : (setOrd w a ep es).toList.Perm es.toList := by
  unfold setOrd
  split
  · exact pickOrder_perm _ _
  · exact List.Perm.refl _
theorem setOrd_size (w : World) (a : Addr) (ep : Nat) (es : Array (Int × Value)) : (setOrd w a ep es).size = es.size := by
  rw [← Array.length_toList, (setOrd_perm w a ep es).length_eq, Array.length_toList]
section
variable {prog : Program} {w : World} {A : Around} {E : Value → Shared → Prop} {s : Shared} {r I : Addr} {es : Array (Int × Value)} {ep : Nat} {t : SetTable}
theorem setWalk_text {Q : Array (Int × Value) → Shared → Prop} (ho : s.heap.get? r = some (setObj es ep t)) (hf : t.fits es.size = true) (hb : byTextOf w = true) (h : Q (setOrd w r ep es) s) :
    wpAny (model prog w) A (setWalk r) Q E s := by
  unfold setWalk
  refine wpAny_bind (wpAny_setState_of ho rfl hf ?_)
  refine wpAny_bind (byText_ask ?_)
  rw [hb]
  simp only [if_true]
  refine wpAny_bind (wpAny_askSetting (wpAny_pure ?_))
  unfold setOrd at h
  rw [hb] at h
  exact h
theorem setNext_ok {Q : Option (Value × Nat) → Shared → Prop} {i : Nat} (ho : s.heap.get? r = some (setObj es ep t)) (hk : tabOK t es.size = true) (hl : byTextOf w = false → t.led = true) (hi : i ≤ es.size)
    (h : Q (((setOrd w r ep es)[i]?).map fun e => (e.2, slotAt w t (i + 1))) s) : wpAny (model prog w) A (setNext r (slotAt w t i) i ep) Q E s := by
  have hk' := hk
  unfold tabOK at hk'
  simp only [Bool.and_eq_true] at hk'
  have hf := hk'.2
  unfold setNext
  refine wpAny_bind (wpAny_setState_of ho rfl hf ?_)
  refine wpAny_bind (byText_ask ?_)
  cases hb : byTextOf w with
  | true =>
    simp only [if_true]
    rw [if_neg (by simp)]
    refine wpAny_bind (setWalk_text ho hf hb ?_)
    refine wpAny_pure ?_
    have e : slotAt w t (i + 1) = slotAt w t i := by unfold slotAt; rw [hb]; rfl
    rw [← e]
    exact h
  | false =>
    simp only [Bool.false_eq_true, if_false]
    have e1 : (!t.plain && decide (es.size > 1)) = false := by rw [hk'.1.1.1]; rfl
    have e2 : (!t.led && !es.isEmpty) = false := by rw [hl hb]; rfl
    show wpAny _ _ (if (!t.plain && decide (es.size > 1)) = true then _ else _) _ _ _
    rw [e1]
    simp only [Bool.false_eq_true, if_false]
    refine wpAny_bind ?_
    show wpAny _ _ (if (!t.led && !es.isEmpty) = true then _ else _) _ _ _
    rw [e2]
    simp only [Bool.false_eq_true, if_false]
    refine wpAny_pure ?_
    have hs : slotAt w t i = (if i = 0 then 0 else t.place.getD (i - 1) 0 + 1) := by unfold slotAt; rw [hb]; rfl
    have hs' : slotAt w t (i + 1) = t.place.getD i 0 + 1 := by unfold slotAt; rw [hb]; rfl
    have hbel : SetTable.below t.place (slotAt w t i) = i := by rw [hs]; exact tabOK_at hk hi
    have hord : setOrd w r ep es = es := by unfold setOrd; rw [hb]; rfl
    rw [hord, hs'] at h
    refine wpAny_pure ?_
    rw [hbel]
    have hps : t.place.size = es.size := by
      unfold SetTable.fits at hf
      simp only [Bool.and_eq_true, beq_iff_eq] at hf
      exact hf.1
    rcases Nat.lt_or_ge i es.size with h1 | h1
    · rw [Array.getElem?_eq_getElem h1, Array.getElem?_eq_getElem (by omega)]
      rw [Array.getElem?_eq_getElem h1] at h
      simp only [Option.map_some] at h
      rw [Array.getD_eq_getD_getElem?, Array.getElem?_eq_getElem (by omega), Option.getD_some] at h
      exact h
    · rw [Array.getElem?_eq_none h1]
      rw [Array.getElem?_eq_none h1] at h
      exact h
theorem sit_type {i : Nat} (h : s.heap.get? I = some (sitObj w t r es.size ep i)) : s.TypeIs (.ref I) "set_iterator" := ⟨_, h, rfl⟩
theorem pyNext_set_item {Q : Option Value → Shared → Prop} {i : Nat} {x : Value} (hI : s.heap.get? I = some (sitObj w t r es.size ep i)) (ho : s.heap.get? r = some (setObj es ep t)) (hk : tabOK t es.size = true)
    (hl : byTextOf w = false → t.led = true) (hx : ((setOrd w r ep es)[i]?).map (·.2) = some x)
    (hQ : ∀ h', h'.get? I = some (sitObj w t r es.size ep (i + 1)) → Heap.SameBut I s.heap h' → Q (some x) { s with heap := h' }) : wpAny (model prog w) A (pyNext (.ref I)) Q E s := by
  have hf : t.fits es.size = true := by unfold tabOK at hk; simp only [Bool.and_eq_true] at hk; exact hk.2
  have hi : i < es.size := by
    rcases Nat.lt_or_ge i es.size with h | h
    · exact h
    · rw [Array.getElem?_eq_none (by rw [setOrd_size]; exact h)] at hx
      cases hx
  unfold pyNext
  refine wpAny_bind (wpAny_attempt (wpAny_callSpecial?_slot (name := Str.ofString "__next__") (sit_type hI) slot_sit_next
    (wpAny_call_entry slot_sit_next (sit_type hI) entry_sit_next ?_ (args_sit_next _))))
  unfold Builtin.«set_iterator.__next__»
  refine wpAny_bind (m := slotArgs "__next__" 0 _) (wpAny_pure ?_)
  refine wpAny_bind (wpAny_fieldsOf hI rfl ?_)
  dsimp only
  refine wpAny_bind (wpAny_setEntries_of ho rfl hf ?_)
  rw [if_neg (by simp)]
  simp only [Int.toNat_natCast]
  refine wpAny_bind (setNext_ok ho hk hl (Nat.le_of_lt hi) ?_)
  cases hxi : (setOrd w r ep es)[i]? with
  | none => rw [hxi] at hx; cases hx
  | some e =>
    rw [hxi] at hx
    simp only [Option.map_some, Option.some.injEq] at hx ⊢
    refine wpAny_bind (wpAny_setField hI rfl (by simp) ?_)
    have h1 : (s.heap.update I (Obj.mapFields (·.setIfInBounds 0 (rawInt (slotAt w t (i + 1)))))).get? I = some { cls := .type "set_iterator", data := .fields #[.int (slotAt w t (i + 1) : Nat) 0, .int (i : Nat) 0, .ref r, .int (es.size : Nat) 0, .int (ep : Nat) 0] } :=
      Heap.get?_update_self _ hI rfl
    refine wpAny_bind (wpAny_setField (s := { s with heap := s.heap.update I (Obj.mapFields (·.setIfInBounds 0 (rawInt (slotAt w t (i + 1))))) }) h1 rfl (by simp) ?_)
    have h2 : ((s.heap.update I (Obj.mapFields (·.setIfInBounds 0 (rawInt (slotAt w t (i + 1)))))).update I (Obj.mapFields (·.setIfInBounds 1 (rawInt ((i : Int) + 1))))).get? I = some (sitObj w t r es.size ep (i + 1)) :=
      Heap.get?_update_self _ h1 rfl
    refine wpAny_pure ⟨_, rfl, wpAny_pure ?_⟩
    rw [hx]
    exact hQ _ h2 ((Heap.SameBut.update ..).trans (Heap.SameBut.update ..))
theorem pyNext_set_end {Q : Option Value → Shared → Prop} (hh : A.handled = none) (hI : s.heap.get? I = some (sitObj w t r es.size ep es.size)) (ho : s.heap.get? r = some (setObj es ep t)) (hk : tabOK t es.size = true)
    (hl : byTextOf w = false → t.led = true)
    (hQ : ∀ h', Heap.ExtBut I s.heap h' → Q none { s with heap := h' }) : wpAny (model prog w) A (pyNext (.ref I)) Q E s := by
  have hf : t.fits es.size = true := by unfold tabOK at hk; simp only [Bool.and_eq_true] at hk; exact hk.2
  unfold pyNext
  refine wpAny_bind (wpAny_attempt (wpAny_callSpecial?_slot (name := Str.ofString "__next__") (sit_type hI) slot_sit_next
    (wpAny_call_entry slot_sit_next (sit_type hI) entry_sit_next ?_ (args_sit_next _))))
  unfold Builtin.«set_iterator.__next__»
  refine wpAny_bind (m := slotArgs "__next__" 0 _) (wpAny_pure ?_)
  refine wpAny_bind (wpAny_fieldsOf hI rfl ?_)
  dsimp only
  refine wpAny_bind (wpAny_setEntries_of ho rfl hf ?_)
  rw [if_neg (by simp)]
  simp only [Int.toNat_natCast]
  refine wpAny_bind (setNext_ok ho hk hl (Nat.le_refl _) ?_)
  rw [Array.getElem?_eq_none (by rw [setOrd_size]; exact Nat.le_refl _)]
  simp only [Option.map_none]
  refine wpAny_bind (wpAny_setField hI rfl (by simp) ?_)
  refine wpAny_bind ?_
  simp only [newExc, newTuple]
  refine wpAny_bind (wpAny_newObj_type ?_ (by size_fits))
  refine wpAny_bind (m := firstArgMember _ _) (wpAny_of_eq (a := Value.none) (by first | rfl | (simp only [firstArgMember]; rfl)) ?_)
  refine wpAny_newObj_type ?_ (by size_fits)
  simp only [raiseNew]
  refine wpAny_bind (wpAny_handled ?_)
  first | rw [show A.in1.handled = none from hh] | rw [hh]
  refine wpAny_throw ?_
  refine wpAny_bind (wpAny_isInstance (T := "StopIteration") (b := true) ⟨_, Heap.get?_push_size _ rfl, rfl⟩ isSubtype_stop ?_)
  exact wpAny_pure (hQ _ (((Heap.SameBut.update ..).extBut.push _).push _))
theorem pyIter_sit {Q : Value → Shared → Prop} {i : Nat} (hI : s.heap.get? I = some (sitObj w t r es.size ep i)) (h : Q (.ref I) s) : wpAny (model prog w) A (pyIter (.ref I)) Q E s := by
  refine wpAny_pyIter_slot (sit_type hI) slot_sit_iter (wpAny_call_entry slot_sit_iter (sit_type hI) entry_sit_iter ?_ (args_sit_iter _))
  show wpAny _ _ (ret (.ref I)) _ _ s
  exact wpAny_pure ⟨_, rfl, "set_iterator", _, sit_type hI, slot_sit_next.lookup, h⟩
theorem Walks.set (hh : A.handled = none) (I : Addr) (hne : r ≠ I) (hk : tabOK t es.size = true) (hl : byTextOf w = false → t.led = true) :
    Walks prog w A I [I, r] [I] es.size (fun i v => ((setOrd w r ep es)[i]?).map (·.2) = some v) (fun i h => h.get? I = some (sitObj w t r es.size ep i) ∧ h.get? r = some (setObj es ep t)) where
  sub := fun b hb => by simp at hb; simp [hb]
  frame := fun _ _ _ st hkp => ⟨hkp I (by simp) _ st.1, hkp r (by simp) _ st.2⟩
  item := fun i s Q E hi st hQ => by
    obtain ⟨x, hx⟩ : ∃ x, ((setOrd w r ep es)[i]?).map (·.2) = some x := by
      rw [Array.getElem?_eq_getElem (by rw [setOrd_size]; exact hi)]
      exact ⟨_, rfl⟩
    refine pyNext_set_item st.1 st.2 hk hl hx fun h' hI' hs' => ?_
    exact hQ x h' s.toks hx ⟨hI', (hs'.2 _ hne).trans st.2⟩ fun b o hb e => (hs'.2 _ (fun h => hb (by simp [h]))).trans e
  done := fun s Q E st hQ => pyNext_set_end hh st.1 st.2 hk hl fun h' he' => hQ h' s.toks fun b o hb e => he' b o (fun h => hb (by simp [h])) e
  self := fun _ _ _ _ st hQ => pyIter_sit st.1 hQ
theorem set_hint {Q : Bool → Shared → Prop} (hT : s.TypeIs (.ref r) "set") (h : Q false s) : wpAny (model prog w) A (Builtin.List.listLengthHint (.ref r)) Q E s := by
  unfold Builtin.List.listLengthHint
  refine wpAny_bind (wpAny_specialOf hT PySem.F.slot_set_len.lookup ?_)
  generalize hid : ("set.__len__" : String) = id0
  wp_delta
  rw [show splitId id0 = some ("set", "__len__") from by subst hid; decide +kernel]
  subst hid
  refine wpAny_bind (wpAny_isInstance (T := "set") (b := true) hT (by rw [isSubtype_type]; kernel_rfl) ?_)
  refine wpAny_ite_split (fun hab => absurd hab (by decide)) (fun _ => ?_)
  refine wpAny_ite_split (fun _ => ?_) (fun hab => absurd (by decide +kernel) hab)
  refine wpAny_bind (wpAny_typeOf hT ?_)
  exact wpAny_pure h
theorem setSrc (hk : tabOK t es.size = true) (hl : byTextOf w = false → t.led = true) :
    KdlSrc prog w "set" r r es.size (fun i v => ((setOrd w r ep es)[i]?).map (·.2) = some v) (fun h => h.get? r = some (setObj es ep t)) where
  type := fun _ hm => ⟨_, hm, rfl⟩
  there := fun _ hm => ⟨Heap.lt_size hm, Heap.lt_size hm⟩
  keep := fun _ _ hm hkp => hkp r (.inl rfl) _ hm
  notList := by decide
  notTuple := by decide
  hint := fun _ _ _ _ hm hq => set_hint ⟨_, hm, rfl⟩ hq
  iter := fun _ _ hh hm => ⟨_, _, (fun _ _ hq => pyIter_set hm hk hq), Walks.set hh _ (Nat.ne_of_lt (Heap.lt_size hm)) hk hl, ⟨Heap.get?_push_size _ rfl, Heap.get?_push_of_some _ hm⟩⟩
end
end Mine

end
section
open PySem PySem.W PyProof.Rows PySem.Spec PySem.Calls
open Sem (wp)
set_option Elab.async false
set_option maxRecDepth 100000
set_option maxHeartbeats 8000000
namespace Mine
theorem hash_small {k : Int} (h0 : 0 ≤ k) (h1 : k < 4096) : hashInt k = k := by
  have e1 : ((k.natAbs : Int) % ((2 ^ 61 - 1 : Nat) : Int)) = k := by
    rw [Int.natAbs_of_nonneg h0]
    exact Int.emod_eq_of_lt h0 (Int.lt_trans h1 (by decide))
  have e : rawHash k = k := by
    unfold rawHash
    dsimp only
    rw [e1, if_neg (Int.not_lt.mpr h0), if_neg]
    rw [beq_iff_eq]
    omega
  unfold hashInt
  rw [e, if_neg]
  rw [beq_iff_eq]
  omega
/-- a set of small ints, told by the hashes in the table's order -/
def RelS (es : Array (Int × Value)) (H : Array Int) : Prop := es.map (·.1) = H ∧ ∀ e ∈ es.toList, (∃ t, e.2 = .int e.1 t) ∧ 0 ≤ e.1 ∧ e.1 < 4096
theorem RelS.size {es : Array (Int × Value)} {H : Array Int} (r : RelS es H) : es.size = H.size := by rw [← r.1, Array.size_map]
theorem RelS.elems {prog : Program} {w : World} {es : Array (Int × Value)} {H : Array Int} (r : RelS es H) : ElemsOf (intKind prog w) es.toList := fun e he => by
  obtain ⟨⟨t, ht⟩, h0, h1⟩ := r.2 e he
  refine ⟨⟨e.1, ?_, ?_⟩, ?_⟩
  · rw [ht]; exact intKind_is _ _ _ _
  · show e.1 = hashInt e.1
    rw [hash_small h0 h1]
  · rw [ht]; rfl
theorem RelS.mem {prog : Program} {w : World} {es : Array (Int × Value)} {H : Array Int} (r : RelS es H) (k : Int) : (∃ e ∈ es.toList, (intKind prog w).is k e.2 = true) ↔ k ∈ H := by
  rw [← r.1, Array.mem_map]
  constructor
  · rintro ⟨e, he, hk⟩
    obtain ⟨⟨t, ht⟩, _⟩ := r.2 e he
    refine ⟨e, Array.mem_toList_iff.mp he, ?_⟩
    rw [ht] at hk
    have : (e.1 == k) = true := hk
    exact beq_iff_eq.mp this
  · rintro ⟨e, he, rfl⟩
    refine ⟨e, Array.mem_toList_iff.mpr he, ?_⟩
    obtain ⟨⟨t, ht⟩, _⟩ := r.2 e (Array.mem_toList_iff.mpr he)
    rw [ht]; exact intKind_is _ _ _ _
noncomputable def stepH (p : Array Int × SetTable) (k : Int) : Option (Array Int × SetTable) :=
  if p.1.contains k then some p else
  match p.2.freeSlot k with
  | none => none
  | some (slot, wd) =>
    if (p.2.put slot).1.fits (SetTable.insertAt p.1 (p.2.put slot).2 k).size then
      if !wd && (p.2.put slot).1.tooFull then
        match (p.2.put slot).1.relaid (SetTable.insertAt p.1 (p.2.put slot).2 k) (SetTable.grown (SetTable.insertAt p.1 (p.2.put slot).2 k).size) with
        | none => none
        | some (t2, order) =>
          if coversAll order (SetTable.insertAt p.1 (p.2.put slot).2 k).size && t2.fits (order.filterMap ((SetTable.insertAt p.1 (p.2.put slot).2 k)[·]?)).size then
            some (order.filterMap ((SetTable.insertAt p.1 (p.2.put slot).2 k)[·]?), t2)
          else none
      else some (SetTable.insertAt p.1 (p.2.put slot).2 k, (p.2.put slot).1)
    else none
theorem map_insertAt (es : Array (Int × Value)) (p : Nat) (x : Int × Value) : (SetTable.insertAt es p x).map (·.1) = SetTable.insertAt (es.map (·.1)) p x.1 := by
  unfold SetTable.insertAt
  simp only [Array.map_append, Array.map_push, Array.map_extract, Array.size_map]
theorem map_pick (es : Array (Int × Value)) (order : Array Nat) : (order.filterMap (es[·]?)).map (·.1) = order.filterMap ((es.map (·.1))[·]?) := by
  rw [Array.map_filterMap]
  congr 1
  funext i
  rw [Array.getElem?_map]
section
variable {prog : Program} {w : World} {A : Around} {E : Value → Shared → Prop} {s : Shared} {a : Addr} {es : Array (Int × Value)} {ep : Nat} {t : SetTable} {H : Array Int}
theorem RelS.step {x : Value} {k : Int} {tk : Tok} {H' : Array Int} {t' : SetTable} (r : RelS es H) (hx : x = .int k tk) (h0 : 0 ≤ k) (h1 : k < 4096) (hc : H.contains k = false) (hs : stepH (H, t) k = some (H', t')) :
    ∃ es1 t1 wd, layNew t es k x = (es1, t1, wd, false) ∧ RelS es1 (es1.map (·.1)) ∧ es1.size = es.size + 1 ∧ t1.fits es1.size = true ∧
      (((!wd && t1.tooFull) = false ∧ es1.map (·.1) = H' ∧ t1 = t') ∨
       ((!wd && t1.tooFull) = true ∧ ∃ es2, relayAll t1 es1 (SetTable.grown es1.size) = (es2, t', false) ∧ RelS es2 H' ∧ es2.size = es1.size ∧ t'.fits es2.size = true)) := by
  have hsz := r.size
  unfold stepH at hs
  dsimp only at hs
  rw [hc] at hs
  simp only [Bool.false_eq_true, if_false] at hs
  cases hfs : t.freeSlot k with
  | none => rw [hfs] at hs; cases hs
  | some q =>
    obtain ⟨slot, wd⟩ := q
    rw [hfs] at hs
    dsimp only at hs
    have hmap : (SetTable.insertAt es (t.put slot).2 (k, x)).map (·.1) = SetTable.insertAt H (t.put slot).2 k := by rw [map_insertAt, r.1]
    have hsz2 : (SetTable.insertAt es (t.put slot).2 (k, x)).size = (SetTable.insertAt H (t.put slot).2 k).size := by rw [← hmap, Array.size_map]
    have hperm := SetTable.insertAt_perm es (t.put slot).2 (k, x)
    have hsz3 : (SetTable.insertAt es (t.put slot).2 (k, x)).size = es.size + 1 := by
      rw [← Array.length_toList, hperm.length_eq, Array.length_toList, Array.size_push]
    have hrel : RelS (SetTable.insertAt es (t.put slot).2 (k, x)) ((SetTable.insertAt es (t.put slot).2 (k, x)).map (·.1)) := ⟨rfl, fun e he => by
      have := hperm.mem_iff.mp he
      rw [Array.toList_push] at this
      rcases List.mem_append.mp this with h | h
      · exact r.2 e h
      · rw [List.mem_singleton] at h
        subst h
        exact ⟨⟨tk, hx⟩, h0, h1⟩⟩
    split at hs
    · rename_i hfits
      rw [← hsz2] at hfits
      have hlay : layNew t es k x = (SetTable.insertAt es (t.put slot).2 (k, x), (t.put slot).1, wd, false) := by
        unfold layNew
        rw [hfs]
        have h3 : (t.put slot).1.orStandIn (SetTable.insertAt es (t.put slot).2 (k, x)).size = (t.put slot).1 := by
          unfold SetTable.orStandIn
          exact if_pos hfits
        show (SetTable.insertAt es (t.put slot).2 (k, x), (t.put slot).1.orStandIn (SetTable.insertAt es (t.put slot).2 (k, x)).size, wd, !(t.put slot).1.fits (SetTable.insertAt es (t.put slot).2 (k, x)).size) = _
        rw [h3, hfits]
        rfl
      refine ⟨_, _, _, hlay, hrel, hsz3, hfits, ?_⟩
      split at hs
      · rename_i hfull
        right
        refine ⟨hfull, ?_⟩
        rw [← hmap, Array.size_map] at hs
        cases hrl : (t.put slot).1.relaid ((SetTable.insertAt es (t.put slot).2 (k, x)).map (·.1)) (SetTable.grown (SetTable.insertAt es (t.put slot).2 (k, x)).size) with
        | none => rw [hrl] at hs; cases hs
        | some q =>
          obtain ⟨t2, order⟩ := q
          rw [hrl] at hs
          dsimp only at hs
          split at hs
          · rename_i hcov
            rw [Option.some.injEq, Prod.mk.injEq] at hs
            obtain ⟨e1, rfl⟩ := hs
            have hpk := map_pick (SetTable.insertAt es (t.put slot).2 (k, x)) order
            have hpsz : (order.filterMap ((SetTable.insertAt es (t.put slot).2 (k, x))[·]?)).size = (order.filterMap (((SetTable.insertAt es (t.put slot).2 (k, x)).map (·.1))[·]?)).size := by rw [← hpk, Array.size_map]
            have hra : relayAll (t.put slot).1 (SetTable.insertAt es (t.put slot).2 (k, x)) (SetTable.grown (SetTable.insertAt es (t.put slot).2 (k, x)).size) =
                (order.filterMap ((SetTable.insertAt es (t.put slot).2 (k, x))[·]?), t2, false) := by
              unfold relayAll
              rw [hrl]
              dsimp only
              rw [hpsz, if_pos hcov]
            have hp2 := relayAll_perm (t.put slot).1 (SetTable.insertAt es (t.put slot).2 (k, x)) (SetTable.grown (SetTable.insertAt es (t.put slot).2 (k, x)).size)
            rw [hra] at hp2
            dsimp only at hp2
            refine ⟨_, hra, ⟨?_, fun e he => hrel.2 e (hp2.mem_iff.mp he)⟩, ?_, ?_⟩
            · rw [hpk]; exact e1
            · rw [← Array.length_toList, hp2.length_eq, Array.length_toList]
            · rw [hpsz]
              rw [Bool.and_eq_true] at hcov
              exact hcov.2
          · cases hs
      · rename_i hfull
        rw [Option.some.injEq, Prod.mk.injEq] at hs
        left
        refine ⟨by simpa using hfull, ?_, hs.2⟩
        rw [hmap]; exact hs.1
    · cases hs
end
end Mine

end
section
open PySem PySem.W PyProof.Rows PySem.Spec PySem.Calls
open Sem (wp)
set_option Elab.async false
set_option maxRecDepth 100000
set_option maxHeartbeats 8000000
namespace Mine
section
variable {prog : Program} {w : World} {A : Around} {E : Value → Shared → Prop} {s : Shared} {a : Addr} {es : Array (Int × Value)} {ep : Nat} {t : SetTable} {H : Array Int}
theorem store_ok {Q : Unit → Shared → Prop} {es' : Array (Int × Value)} {t' : SetTable} (ho : s.heap.get? a = some (setObj es ep t)) (hz : es'.size < scanBound)
    (h : ∀ h', Heap.SameBut a s.heap h' → h'.get? a = some (setObj es' (ep + 1) t') → Q () { s with heap := h' }) : wpAny (model prog w) A (storeSet a es' t') Q E s := by
  refine wpAny_storeSet_of ho rfl ?_ (fits_of_scanBound hz)
  refine h _ (Heap.SameBut.update ..) ?_
  have := Heap.get?_update_self (Obj.putSet es' t') ho (by rw [putSet_of es' t' rfl]; rfl)
  rw [putSet_of es' t' rfl] at this
  exact this
theorem add_ok {Q : Bool → Shared → Prop} {k : Int} {tk : Tok} {H' : Array Int} {t' : SetTable} (ho : s.heap.get? a = some (setObj es ep t)) (hf : t.fits es.size = true) (r : RelS es H) (h0 : 0 ≤ k) (h1 : k < 4096)
    (hs : stepH (H, t) k = some (H', t')) (hb : es.size + 1 < scanBound)
    (h : ∀ h' es' ep' b, Heap.SameBut a s.heap h' → h'.get? a = some (setObj es' ep' t') → RelS es' H' → es'.size ≤ es.size + 1 → t'.fits es'.size = true → Q b { s with heap := h' }) :
    wpAny (model prog w) A (setAddHashed a (.int k tk) k) Q E s := by
  unfold setAddHashed setAddHashedIn
  refine wpAny_holding (wpAny_bind (wpAny_setState_of ho rfl hf ?_))
  dsimp only
  rw [byScan_of (knd := intKind prog w) rfl (by omega) r.elems]
  simp only [↓reduceIte]
  unfold setAddByScan
  refine wpAny_bind ?_
  refine wpAny_bind (wpAny_rule ?_)
  have hh : k = (intKind prog w).hash k := (hash_small h0 h1).symm
  have scan : ∀ (Q' : ScanMet → Shared → Prop), Q' (match es.toList.findIdx? (fun e => (intKind prog w).is k e.2) with | some j => .found (0 + j) | none => .absent) s →
      wpAny (model prog w) A (setScan a (.int k tk) k true es) Q' E s := fun Q' hq => by
    have := wpAny_setScan_of (knd := intKind prog w) (k := k) (A := A) (E := E) (adding := true) (Q := Q') (intKind_is _ _ k tk) ho rfl hf r.elems hq
    rwa [← hh] at this
  refine wpAny_bind (scan _ ?_)
  cases hc : H.contains k with
  | true =>
    have hst : H' = H ∧ t' = t := by
      unfold stepH at hs
      dsimp only at hs
      rw [hc] at hs
      simp only [if_true, Option.some.injEq, Prod.mk.injEq] at hs
      exact ⟨hs.1.symm, hs.2.symm⟩
    obtain ⟨rfl, rfl⟩ := hst
    have hm : k ∈ H' := by simpa using hc
    obtain ⟨e, he, hk⟩ := (r.mem (prog := prog) (w := w) k).mpr hm
    cases hr : es.toList.findIdx? (fun e => (intKind prog w).is k e.2) with
    | none =>
      have := List.findIdx?_eq_none_iff.mp hr e he
      rw [hk] at this
      cases this
    | some j =>
      dsimp only
      refine wpAny_pure (wpAny_pure ?_)
      have := h s.heap es ep false (Heap.SameBut.refl a s.heap) ho r (Nat.le_succ _) hf
      exact this
  | false =>
    have hn : es.toList.findIdx? (fun e => (intKind prog w).is k e.2) = none := by
      rw [List.findIdx?_eq_none_iff]
      intro e he
      cases hk : (intKind prog w).is k e.2 with
      | false => rfl
      | true =>
        have : k ∈ H := (r.mem (prog := prog) (w := w) k).mp ⟨e, he, hk⟩
        have h2 : H.contains k = true := by simpa using this
        rw [hc] at h2; cases h2
    rw [hn]
    dsimp only
    obtain ⟨es1, t1, wd, hlay, r1, hz1, hf1, hcase⟩ := r.step (x := .int k tk) rfl h0 h1 hc hs
    rw [hlay]
    dsimp only
    refine wpAny_bind (wpAny_pure ?_)
    have key : wpAny (model prog w) A (do
        storeSet a es1 t1
        if (!wd && t1.tooFull) = true then do
            (match (relayAll t1 es1 (SetTable.grown es1.size)).2.2 with | true => rule "set.scan.the-table-gave-way" | false => pure ())
            storeSet a (relayAll t1 es1 (SetTable.grown es1.size)).1 (relayAll t1 es1 (SetTable.grown es1.size)).2.1
            pure (some true)
          else pure (some true)) (fun x s' => x = some true ∧ Q true s') E s := by
      refine wpAny_bind (store_ok ho (by omega) fun h' hsb ho' => ?_)
      rcases hcase with ⟨hfull, rfl, rfl⟩ | ⟨hfull, es2, hra, r2, hz2, hf2⟩
      · rw [if_neg (by rw [hfull]; decide)]
        exact wpAny_pure ⟨rfl, h h' es1 _ true hsb ho' r1 (by omega) hf1⟩
      · rw [if_pos hfull, hra]
        dsimp only
        refine wpAny_bind (wpAny_pure ?_)
        refine wpAny_bind (store_ok (s := { s with heap := h' }) ho' (by omega) fun h2 hsb2 ho2 => ?_)
        exact wpAny_pure ⟨rfl, h h2 es2 _ true (hsb.trans hsb2) ho2 r2 (by omega) hf2⟩
    split
    · refine wpAny_bind ?_
      rw [hashByValue_scannable 8 (x := Value.int k tk) rfl]
      refine wpAny_pure ?_
      simp only [plainKind, if_true]
      exact wpAny_mono key (fun x s' hx => by obtain ⟨rfl, hq⟩ := hx; exact wpAny_pure hq) fun _ _ e => e
    · refine wpAny_bind (wpAny_pure ?_)
      simp only [if_true]
      exact wpAny_mono key (fun x s' hx => by obtain ⟨rfl, hq⟩ := hx; exact wpAny_pure hq) fun _ _ e => e
end
end Mine

end
section
open PySem PySem.W PyProof.Rows PySem.Spec PySem.Calls
open Sem (wp)
set_option Elab.async false
set_option maxRecDepth 100000
set_option maxHeartbeats 8000000
namespace Mine
noncomputable def foldH : List Int → Array Int × SetTable → Option (Array Int × SetTable)
  | [], p => some p
  | k :: ks, p => (stepH p k).bind (foldH ks)
section
variable {prog : Program} {w : World} {A : Around} {R : Result → Shared → Prop} {I : Addr} {fp wr : List Addr} {G : Array GenState → Array GenState → Prop} {n : Nat} {P : Nat → Value → Prop} {St : Nat → Shared → Prop}
theorem set_loop (W : WalksS prog w A.in1 I fp wr G n P St) (S : Addr) (hSf : S ∉ fp) (val : Nat → Int) (hval : ∀ i v, P i v → ∃ t, v = .int (val i) t) (hr : ∀ i, i < n → 0 ≤ val i ∧ val i < 4096) (hb : n + 1 < scanBound) (Hf : Array Int) (tf : SetTable) :
    ∀ (k i : Nat) (s : Shared) (es : Array (Int × Value)) (ep : Nat) (t : SetTable) (H : Array Int), n - i = k → i ≤ n → St i s → s.heap.get? S = some (setObj es ep t) → RelS es H → t.fits es.size = true → es.size ≤ i →
      foldH ((List.range' i k).map val) (H, t) = some (Hf, tf) →
      (∀ s' es' ep', Moved (S :: wr) G s s' → s'.heap.get? S = some (setObj es' ep' tf) → RelS es' Hf → tf.fits es'.size = true → R (.ok (.ret .none)) s') →
      codeAny (model prog w) A (.builtin "set.update.loop" ⟨[.ref S, .ref I], []⟩) R s := by
  have hSw : S ∉ wr := fun h => hSf (W.sub _ h)
  have hsub : ∀ b ∈ wr, b ∈ S :: wr := fun b hb => List.mem_cons_of_mem _ hb
  intro k
  induction k with
  | zero =>
    intro i s es ep t H hk hi hst hS hrel hf hsz hfold hR
    obtain rfl : i = n := Nat.le_antisymm hi (Nat.le_of_sub_eq_zero hk)
    simp only [List.range'_zero, List.map_nil, foldH, Option.some.injEq, Prod.mk.injEq] at hfold
    obtain ⟨rfl, rfl⟩ := hfold
    refine codeAny_builtin PyProof.Rows.F.entry_set_update_loop ?_
    rw [Around.under_plainId PyProof.Rows.F.plain_set_update_loop _]
    show wpAny _ A.in1 (pyNext (.ref I) >>= _) _ _ s
    refine wpAny_bind (W.done s _ _ hst fun s' hm => ?_)
    exact wpAny_pure (hR s' es ep (hm.mono hsub) (hm.heap S _ hSw hS) hrel hf)
  | succ k ih =>
    intro i s es ep t H hk hi hst hS hrel hf hsz hfold hR
    have hlt : i < n := Nat.lt_of_sub_eq_succ hk
    refine codeAny_builtin PyProof.Rows.F.entry_set_update_loop ?_
    rw [Around.under_plainId PyProof.Rows.F.plain_set_update_loop _]
    show wpAny _ A.in1 (pyNext (.ref I) >>= _) _ _ s
    refine wpAny_bind (W.item i s _ _ hlt hst fun v s' hP hst' hm => ?_)
    obtain ⟨tv, rfl⟩ := hval i v hP
    rw [List.range'_succ, List.map_cons] at hfold
    unfold foldH at hfold
    cases hs1 : stepH (H, t) (val i) with
    | none => rw [hs1] at hfold; cases hfold
    | some q =>
      obtain ⟨H1, t1⟩ := q
      rw [hs1, Option.bind_some] at hfold
      have hS' := hm.heap S _ hSw hS
      obtain ⟨hv0, hv1⟩ := hr i hlt
      show wpAny _ A.in1 (holding [Value.int (val i) tv] (setAdd S (.int (val i) tv)) >>= _) _ _ s'
      refine wpAny_bind (wpAny_holding ?_)
      unfold setAdd
      refine wpAny_holding ?_
      refine wpAny_bind ((intKind prog w).pyHash (k := val i) (intKind_is _ _ _ _) ?_)
      rw [show (intKind prog w).hash (val i) = val i from hash_small hv0 hv1]
      refine add_ok (s := { s' with toks := s'.toks + 1 }) hS' hf hrel hv0 hv1 hs1 (Nat.lt_of_le_of_lt (Nat.succ_le_succ (Nat.le_trans hsz (Nat.le_of_lt hlt))) hb) fun h' es1 ep1 b hsb ho1 hrel1 hsz1 hf1 => ?_
      refine wpAny_pure ⟨plainId_quiet PyProof.Rows.F.plain_set_update_loop _, ih (i + 1) _ es1 ep1 t1 H1 (sub_e hk) hlt (W.frame _ s' _ _ hst' (Nat.le_succ _) fun b hb o e => ?_) ho1 hrel1 hf1 (Nat.le_trans hsz1 (Nat.succ_le_succ hsz)) hfold fun s'' es2 ep2 hm'' hS'' hrel2 hf2 => ?_⟩
      · rw [hsb.2 b (fun h : b = S => hSf (by rw [← h]; exact hb))]; exact e
      · refine hR s'' es2 ep2 (Moved.trans W.gtrans ((hm.mono hsub).then_heap (Nat.le_succ _) fun b o hb e => ?_) hm'') hS'' hrel2 hf2
        rw [hsb.2 b (fun h : b = S => hb (by rw [h]; exact List.mem_cons_self))]; exact e
end
section
variable {prog : Program} {w : World} {A : Around} {E : Value → Shared → Prop} {s : Shared}
theorem set_made (a : Value) {Q₁ : Value → Shared → Prop}
    (h : Q₁ (.ref s.heap.objs.size) { s with heap := s.heap.push (setObj #[] 0 (.fresh 0 0 (!byTextOf w))) }) :
    codeAny (model prog w) A (.call (.builtin "set.__new__") ⟨[.type "set", a], []⟩) (wants Q₁ E) s := by
  refine codeAny_of_tree ?_
  show wpAny _ A.in1 (do checkBuiltinCall "set.__new__" ⟨[.type "set", a], []⟩; again (.builtin "set.__new__" ⟨[.type "set", a], []⟩)) _ _ s
  refine wpAny_bind (wpAny_of_eq (PySem.F.newCall_set_1 a) (wpAny_pure ⟨plainId_quiet PySem.F.plain_set_new _, codeAny_builtin PySem.F.entry_set_new ?_⟩))
  rw [Around.under_plainId PySem.F.plain_set_new _]
  unfold Builtin.«set.__new__» Builtin.Frozenset.newClass
  have hsub := sub_set_self
  obtain ⟨hp, g, d, tk, os⟩ := s
  dsimp only
  wp_walk
  refine wpAny_askSetting (wpAny_pure ?_)
  dsimp only
  simp only [newObj]
  refine wpAny_bind (wpAny_alloc (wpAny_pure ?_))
  exact wpAny_pure h
end
end Mine

end
section
open PySem PySem.W PyProof.Rows PySem.Spec PySem.Calls
open Sem (wp)
set_option Elab.async false
set_option maxRecDepth 100000
set_option maxHeartbeats 8000000
namespace Mine
theorem range_map (ns : List Int) : (List.range' 0 ns.length).map (fun i => ns.getD i 0) = ns := by
  apply List.ext_getElem
  · simp
  · intro i h1 h2
    simp [h2]
section
variable {prog : Program} {w : World} {A : Around} {E : Value → Shared → Prop} {s : Shared}
theorem set_call {l : Addr} {items : Array Value} {ns : List Int} {Hf : Array Int} {tf : SetTable} {Q : Value → Shared → Prop}
    (hh : A.handled = none) (hl : s.heap.IsList l items) (hi : IntsAre items.toList ns) (hb : items.size + 1 < scanBound) (hsm : ∀ k ∈ ns, 0 ≤ k ∧ k < 4096)
    (hfold : foldH ns (#[], .fresh 0 0 (!byTextOf w)) = some (Hf, tf))
    (h : ∀ (h' : Heap) (tk : Nat) es ep, h'.get? s.heap.objs.size = some (setObj es ep tf) → RelS es Hf → tf.fits es.size = true →
      (∀ b o, b < s.heap.objs.size → s.heap.get? b = some o → h'.get? b = some o) → Q (.ref s.heap.objs.size) { s with heap := h', toks := tk }) :
    wpAny (model prog w) A (call (.type "set") [.ref l]) Q E s := by
  obtain ⟨c, tl, hmro⟩ := PySem.F.called_set.mro
  have hmade := PySem.F.called_set.made
  have hsub := PySem.F.called_set.sub
  refine wpAny_call (codeAny_of_tree ?_)
  show wpAny _ _ (callAny (.type "set") _) _ _ _
  refine wpAny_pure ⟨Code.quiet_builtin _ (by decide +kernel), codeAny_builtin PySem.F.entry_type_call ?_⟩
  rw [Around.under_plain (weight_type_call_type "set" [.ref l] []) rfl]
  have h1 := PySem.F.called_set.notType
  have h2 := PySem.F.called_set.canCreate
  have hct := PySem.F.typeCall_set_1 (.ref l)
  repeat (any_goals (first | assumption | wp_step))
  refine codeAny_mono (set_made (.ref l) (E := E) (Q₁ := fun obj s₁ => obj = .ref s.heap.objs.size ∧ s₁ = { s with heap := s.heap.push (setObj #[] 0 (.fresh 0 0 (!byTextOf w))) }) ⟨rfl, rfl⟩) fun r s₁ hr => ?_
  cases r with
  | error e => exact hr
  | ok fl =>
    cases fl with
    | ret obj =>
      obtain ⟨rfl, rfl⟩ := hr
      have hS : (s.heap.push (setObj #[] 0 (.fresh 0 0 (!byTextOf w)))).get? s.heap.objs.size = some (setObj #[] 0 (.fresh 0 0 (!byTextOf w))) := Heap.get?_push_size _ rfl
      have hT : Shared.TypeIs { s with heap := s.heap.push (setObj #[] 0 (.fresh 0 0 (!byTextOf w))) } (.ref s.heap.objs.size) "set" := ⟨_, hS, rfl⟩
      have hli := PySem.F.called_set.init.lookup
      have hbi := PySem.F.called_set.init.bind (.ref s.heap.objs.size)
      repeat (any_goals (first | assumption | wp_step))
      refine codeAny_mono (codeAny_call_builtin (R := wants (fun r s₂ => r = .none ∧ ∃ h' tk es ep, s₂ = { s with heap := h', toks := tk } ∧
          h'.get? s.heap.objs.size = some (setObj es ep tf) ∧ RelS es Hf ∧ tf.fits es.size = true ∧
          (∀ b o, b < s.heap.objs.size → s.heap.get? b = some o → h'.get? b = some o)) E) PySem.F.called_set.init.plain PySem.F.entry_set_init (check_set_init_1 hT ?_)) fun r₂ s₂ hr₂ => ?_
      · obtain ⟨ol, hol, hcl, nl, hdl⟩ := hl
        obtain ⟨ocls, odict, odata, oslots⟩ := ol
        simp only at hcl hdl
        subst hcl; subst hdl
        have hol' : (s.heap.push (setObj #[] 0 (.fresh 0 0 (!byTextOf w)))).get? l = some { cls := .type "list", dict := odict, data := .seq items nl, slots := oslots } := Heap.get?_push_of_some _ hol
        have hsls := PySem.F.sub_list_set
        have hslf := PySem.F.sub_list_frozenset
        have hne : (Value.type "list" == Value.type "dict") = false := by decide
        have hl1 : (s.heap.push (setObj #[] 0 (.fresh 0 0 (!byTextOf w)))).IsList l items := ⟨_, hol', rfl, nl, rfl⟩
        unfold Builtin.«set.__init__» noKeywords Builtin.Frozenset.updateFrom
        generalize hPI : pyIter = PI
        wp_walk
        subst hPI
        refine wpAny_pyIter_list hl1 ?_
        refine wpAny_bind (wpAny_runValue ?_)
        have hlS : l < s.heap.objs.size := Heap.lt_size hol
        have hh3 : A.in1.in1.in1.handled = none := by simp [hh]
        have hneI : l ≠ (s.heap.push (setObj #[] 0 (.fresh 0 0 (!byTextOf w)))).objs.size := by
          rw [Heap.size_push]; exact Nat.ne_of_lt (Nat.lt_succ_of_lt hlS)
        have hSf : s.heap.objs.size ∉ [(s.heap.push (setObj #[] 0 (.fresh 0 0 (!byTextOf w)))).objs.size, l] := by
          rw [Heap.size_push]; simp only [List.mem_cons, List.mem_singleton, List.not_mem_nil, or_false, not_or]
          exact ⟨Nat.ne_of_lt (Nat.lt_succ_self _), Nat.ne_of_gt hlS⟩
        have hval : ∀ (i : Nat) (v : Value), items[i]? = some v → ∃ t, v = .int ((fun i => ns.getD i 0) i) t := fun i v hv =>
          IntsAre.int_at hi i v (by rw [Array.getElem?_toList]; exact hv)
        have hlen : ns.length = items.size := by rw [← IntsAre.length hi, Array.length_toList]
        have hrg : (List.range' 0 (items.size - 0)).map (fun i => ns.getD i 0) = ns := by rw [Nat.sub_zero, ← hlen]; exact range_map ns
        refine set_loop ((Walks.list hh3 _ l hneI items).toS) s.heap.objs.size hSf (fun i => ns.getD i 0) hval ?hrange hb Hf tf (items.size - 0) 0 _ #[] 0 (.fresh 0 0 (!byTextOf w)) #[] (by omega) (Nat.zero_le _)
          ⟨⟨_, Heap.get?_push_size _ rfl, rfl, rfl⟩, (hl1.push _)⟩ ?hS0 ?hrel ?hf0 (Nat.le_refl _) ?hfd ?hR
        case hrange =>
          intro i hi2
          have hlt : i < ns.length := by omega
          have e : ns.getD i 0 = ns[i] := by simp [hlt]
          refine hsm (ns.getD i 0) ?_
          rw [e]
          exact List.getElem_mem hlt
        case hS0 => exact Heap.get?_push_of_some _ hS
        case hrel => exact ⟨by simp, fun e he => by simp at he⟩
        case hf0 => rfl
        case hfd => rw [hrg]; exact hfold
        case hR =>
          intro s' es ep hm hS' hrel hf
          obtain ⟨h', g', d', tk', os'⟩ := s'
          have eg : g' = s.gens := hm.gens
          have ed : d' = s.drawn := hm.drawn
          have eo : os' = s.os := hm.os
          subst eg; subst ed; subst eo
          show wpAny _ _ _ _ _ _
          refine wpAny_pure ?_
          show wpAny _ _ (ret Value.none) _ _ _
          refine wpAny_pure ⟨rfl, h', tk', es, ep, rfl, hS', hrel, hf, fun b o hb e => ?_⟩
          have hb1 : b ≠ s.heap.objs.size := Nat.ne_of_lt hb
          have hb2 : b ≠ (s.heap.push (setObj #[] 0 (.fresh 0 0 (!byTextOf w)))).objs.size := by
            rw [Heap.size_push]; exact Nat.ne_of_lt (Nat.lt_succ_of_lt hb)
          exact hm.heap b o (by simp only [List.mem_cons, List.mem_singleton, List.not_mem_nil, or_false, not_or]; exact ⟨hb1, hb2⟩) (Heap.get?_push_of_some _ (Heap.get?_push_of_some _ e))
      · cases r₂ with
        | error e => exact hr₂
        | ok fl₂ =>
          cases fl₂ with
          | ret r =>
            obtain ⟨rfl, h', tk, es, ep, rfl, hS', hrel, hf, hk'⟩ := hr₂
            repeat (any_goals (first | assumption | wp_step))
            exact h _ _ _ _ hS' hrel hf hk'
          | _ => exact hr₂.elim
    | _ => exact hr.elim
end
end Mine

end
section
open PySem PySem.W PyProof.Rows PySem.Spec PySem.Calls
open Sem (wp)
set_option Elab.async false
set_option maxRecDepth 100000
set_option maxHeartbeats 8000000
namespace Mine
noncomputable def ins (x : Int) : List Int → List Int
  | [] => [x]
  | y :: r => if x ≤ y then x :: y :: r else y :: ins x r
noncomputable def isort : List Int → List Int
  | [] => []
  | x :: r => ins x (isort r)
noncomputable def dedup : List Int → List Int → List Int
  | acc, [] => acc
  | acc, x :: r => dedup (if acc.contains x then acc else x :: acc) r
noncomputable def sset (ns : List Int) : List Int := isort (dedup [] ns)
theorem ins_perm (x : Int) : ∀ l, (ins x l).Perm (x :: l)
  | [] => List.Perm.refl _
  | y :: r => by
    unfold ins
    split
    · exact List.Perm.refl _
    · exact (List.Perm.cons y (ins_perm x r)).trans (List.Perm.swap x y r)
theorem isort_perm : ∀ l, (isort l).Perm l
  | [] => List.Perm.refl _
  | x :: r => (ins_perm x (isort r)).trans (List.Perm.cons x (isort_perm r))
theorem ins_sorted (x : Int) : ∀ l, l.Pairwise (· ≤ ·) → (ins x l).Pairwise (· ≤ ·)
  | [], _ => List.pairwise_singleton _ _
  | y :: r, h => by
    unfold ins
    have hc := List.pairwise_cons.mp h
    split
    · rename_i hxy
      refine List.pairwise_cons.mpr ⟨fun z hz => ?_, h⟩
      rcases List.mem_cons.mp hz with rfl | hz
      · exact hxy
      · exact Int.le_trans hxy (hc.1 z hz)
    · rename_i hxy
      refine List.pairwise_cons.mpr ⟨fun z hz => ?_, ins_sorted x r hc.2⟩
      rcases List.mem_cons.mp ((ins_perm x r).mem_iff.mp hz) with rfl | hz
      · omega
      · exact hc.1 z hz
theorem isort_sorted : ∀ l, (isort l).Pairwise (· ≤ ·)
  | [] => List.Pairwise.nil
  | x :: r => ins_sorted x _ (isort_sorted r)
theorem sorted_unique : ∀ (l l' : List Int), l.Perm l' → l.Pairwise (· ≤ ·) → l'.Pairwise (· ≤ ·) → l = l'
  | [], l', h, _, _ => h.nil_eq
  | x :: r, [], h, _, _ => absurd h.length_eq (by simp)
  | x :: r, y :: r', h, hs, hs' => by
    have c := List.pairwise_cons.mp hs
    have c' := List.pairwise_cons.mp hs'
    have hxy : x = y := by
      have m1 : x ∈ y :: r' := h.mem_iff.mp (List.mem_cons_self ..)
      have m2 : y ∈ x :: r := h.mem_iff.mpr (List.mem_cons_self ..)
      rcases List.mem_cons.mp m1 with e | m1
      · exact e
      · rcases List.mem_cons.mp m2 with e | m2
        · exact e.symm
        · have := c.1 y m2
          have := c'.1 x m1
          omega
    subst hxy
    rw [sorted_unique r r' (List.Perm.cons_inv h) c.2 c'.2]
noncomputable def setOK (ns : List Int) : Bool := decide (ns.length < 60) && ns.all (fun k => decide (0 ≤ k ∧ k < 4096)) && [true, false].all fun led => match foldH ns (#[], .fresh 0 0 led) with
  | some (H, t) => tabOK t H.size && (t.led == led) && (isort H.toList == sset ns) && decide (H.size < 64)
  | none => false
structure SetIs (w : World) (es : Array (Int × Value)) (t : SetTable) (ns : List Int) : Prop where
  rel : ∃ H, RelS es H ∧ isort H.toList = sset ns
  ok : tabOK t es.size = true
  led : byTextOf w = false → t.led = true
  small : es.size < 64
section
variable {prog : Program} {w : World} {A : Around} {E : Value → Shared → Prop} {s : Shared} {h₀ : Heap} {L : Addr} {m : Str → Option Value} {news : List (Addr × Obj)}
theorem set_K {l : Addr} {items : Array Value} {nl : Nat} {ns : List Int} {Q : Value → Shared → Prop} (F : Fr h₀ L s.heap m) (N : News h₀ L s.heap news) (hm : (l, W.listOf items nl) ∈ news) (hh : A.handled = none)
    (hi : IntsAre items.toList ns) (hok : setOK ns = true)
    (h : ∀ S h' tk es ep t, Fr h₀ L h' m → News h₀ L h' ((S, setObj es ep t) :: news) → (∀ p ∈ news, p.1 < S) → SetIs w es t ns → Q (.ref S) { s with heap := h', toks := tk }) :
    wpAny (model prog w) A (call (.type "set") [.ref l]) Q E s := by
  unfold setOK at hok
  simp only [Bool.and_eq_true, decide_eq_true_eq] at hok
  obtain ⟨⟨hlen, hall⟩, hled⟩ := hok
  have h1 := List.all_eq_true.mp hled (!byTextOf w) (by cases byTextOf w <;> simp)
  have hsz : items.size = ns.length := by rw [← IntsAre.length hi, Array.length_toList]
  cases hf : foldH ns (#[], .fresh 0 0 (!byTextOf w)) with
  | none => rw [hf] at h1; cases h1
  | some q =>
    obtain ⟨H, t⟩ := q
    rw [hf] at h1
    simp only [Bool.and_eq_true, decide_eq_true_eq, beq_iff_eq] at h1
    obtain ⟨⟨⟨k1, k2⟩, k3⟩, k4⟩ := h1
    refine set_call hh ⟨_, (N _ hm).1, rfl, nl, rfl⟩ hi (by unfold scanBound; omega) (fun k hk => by
      have := List.all_eq_true.mp hall k hk
      simpa using this) hf fun h' tk es ep ho hrel hfit hk => ?_
    have F' : Fr h₀ L h' m := ⟨F.ns.at' fun o' e => hk L o' F.ns.lt e, fun b o' e => hk b o' (Heap.lt_size (F.keep b o' e)) (F.keep b o' e), F.above⟩
    refine h _ h' tk es ep t F' (fun p hp => ?_) (fun p hp => Heap.lt_size (N p hp).1) ⟨⟨H, hrel, k3⟩, by rw [hrel.size]; exact k1, fun hb => by rw [k2, hb]; rfl, by rw [hrel.size]; exact k4⟩
    rcases List.mem_cons.mp hp with rfl | hp
    · refine ⟨ho, Nat.ne_of_gt F.ns.lt, ?_⟩
      cases hq : h₀.get? s.heap.objs.size with
      | none => rfl
      | some o' => exact absurd (Heap.lt_size (F.keep _ _ hq)) (Nat.lt_irrefl _)
    · exact ⟨hk _ _ (Heap.lt_size (N p hp).1) (N p hp).1, (N p hp).2.1, (N p hp).2.2⟩
theorem sortedSet_K {S : Addr} {es : Array (Int × Value)} {ep : Nat} {t : SetTable} {ns : List Int} {Q : Value → Shared → Prop} (F : Fr h₀ L s.heap m) (N : News h₀ L s.heap news) (hm : (S, setObj es ep t) ∈ news) (hh : A.handled = none) (hS : SetIs w es t ns)
    (h : ∀ D h' tk vs n, Fr h₀ L h' m → News h₀ L h' ((D, W.listOf vs.toArray n) :: news) → (∀ p ∈ news, p.1 < D) → IntsAre vs (sset ns) → Q (.ref D) { s with heap := h', toks := tk }) :
    wpAny (model prog w) A (call (.builtin "sorted") [.ref S]) Q E s := by
  obtain ⟨H, hrel, hiso⟩ := hS.rel
  have h64 := hS.small
  refine kdu_sorted (setSrc (ep := ep) hS.ok hS.led) hh F N (N _ hm).1 (by rw [sizeLine_eq]; omega) fun D h' tk vs F' N' l1 hl hv => ?_
  have hvs : vs = (setOrd w S ep es).toList.map (·.2) := by
    apply List.ext_getElem?
    intro j
    rw [List.getElem?_map, show (setOrd w S ep es).toList[j]? = (setOrd w S ep es)[j]? from Array.getElem?_toList]
    rcases Nat.lt_or_ge j vs.length with hj | hj
    · rw [List.getElem?_eq_getElem hj]
      exact (hv j _ (List.getElem?_eq_getElem hj)).symm
    · rw [List.getElem?_eq_none hj, Array.getElem?_eq_none (by rw [setOrd_size]; omega)]
      rfl
  have hp := setOrd_perm w S ep es
  have hI : IntsAre vs ((setOrd w S ep es).toList.map (·.1)) := by
    rw [hvs]
    have : ∀ (l : List (Int × Value)), (∀ e ∈ l, ∃ t, e.2 = .int e.1 t) → IntsAre (l.map (·.2)) (l.map (·.1)) := by
      intro l
      induction l with
      | nil => intro _; exact .nil
      | cons e r ih =>
        intro he
        obtain ⟨t, ht⟩ := he e (.head _)
        rw [List.map_cons, List.map_cons, ht]
        exact .cons _ _ (ih fun x hx => he x (.tail _ hx))
    exact this _ fun e he => (hrel.2 e (hp.mem_iff.mp he)).1
  have hperm : ((setOrd w S ep es).toList.map (·.1)).Perm H.toList := by
    have := hp.map (·.1)
    rw [← hrel.1, Array.toList_map]
    exact this
  have hoD : h'.get? D = some (seqObj "list" vs.toArray 0) := (N' _ (.head _)).1
  have hTD : ({ s with heap := h', toks := tk } : Shared).TypeIs (.ref D) "list" := ⟨_, hoD, rfl⟩
  refine wpAny_call_entry slot_list_sort hTD entry_list_sort (list_sort_tree hoD hI (by omega) fun out ns' a1 a2 a3 => ⟨_, rfl, ?_⟩) (args_list_sort _)
  have hns : ns' = sset ns := by
    rw [← hiso]
    exact sorted_unique _ _ ((a2.trans hperm).trans (isort_perm _).symm) a3 (isort_sorted _)
  have hold : ∀ b o, b ≠ D → h'.get? b = some o → (sortedHeap h' D vs out).get? b = some o := fun b o hb e => (sortedHeap_old hb (Heap.lt_size e)).trans e
  obtain ⟨n, hn⟩ := sortedHeap_at (out := out) hoD
  have hD0 := N' _ (.head _)
  refine h D (sortedHeap h' D vs out) tk out.toList n ⟨F'.ns.at' fun o' e => hold L o' (fun e => hD0.2.1 e.symm) e, fun b o' e => hold b o' (fun q => by rw [q, hD0.2.2] at e; cases e) (F'.keep b o' e), F'.above⟩ (fun p hp => ?_) l1 (hns ▸ a1)
  rcases List.mem_cons.mp hp with rfl | hp
  · exact ⟨by simpa using hn, hD0.2⟩
  · exact ⟨hold _ _ (Nat.ne_of_lt (l1 p hp)) (N' _ (.tail _ hp)).1, (N' _ (.tail _ hp)).2⟩
end
end Mine

end
section
open PySem PySem.W PyProof.Rows PySem.Spec PySem.Calls
set_option Elab.async false
namespace Mine
/-- an entry of a table: the purse, the letters' size, the crowd -/
abbrev Ent := Int × Bool × Int
noncomputable def decS (n : Int) : Str := Str.ofString (toString n)
noncomputable def entsOf (T : List Ent) : List (Str × Str) := T.map fun e => (nameOf e.1 e.2.1, decS e.2.2)
noncomputable def pursesT (T : List Ent) : List Int := T.map (·.1)
noncomputable def crowdOf (T : List Ent) (p : Int) : Int := ((T.filter fun e => e.1 == p).map (·.2.2)).sum
noncomputable def playT (o0 o1 z : Int) (T : List Ent) (p : Int) : List Ent := [(p + min p (2048 - p) / z, true, crowdOf T p * o0), (p - min p (2048 - p) / z, false, crowdOf T p * o1)]
noncomputable def turnT (o0 o1 z : Int) (T : List Ent) : List Ent := (sset (pursesT T)).flatMap (playT o0 o1 z T)
end Mine

end
section
open PySem PySem.W PyProof.Rows PySem.Spec PySem.Calls PySem.Flt
open Sem (wp)
set_option Elab.async false
set_option maxRecDepth 100000
set_option maxHeartbeats 8000000
namespace Mine
section
variable {prog : Program} {w : World} {A : Around} {E : Value → Shared → Prop} {s : Shared} {Q : Value → Shared → Prop} {h₀ : Heap} {L t : Addr} {m : Str → Option Value} {news : List (Addr × Obj)} {vs : List Value} {bs : List UInt64}
theorem max_floatsT (hh : A.handled = none) (F : Fr h₀ L s.heap m) (N : News h₀ L s.heap news) (hm : (t, ({ cls := .type "tuple", data := .seq vs.toArray } : Obj)) ∈ news) (hf : FloatsAre vs bs) (hne : 0 < bs.length)
    (h : ∀ h' tk t, Fr h₀ L h' m → News h₀ L h' news → Q (.float (maxOfBits bs) t) { s with heap := h', toks := tk }) : wpAny (model prog w) A (call (.builtin "max") [.ref t]) Q E s := by
  have ht : s.heap.IsTuple t vs.toArray := ⟨_, (N _ hm).1, rfl, 0, rfl⟩
  have hlt := Heap.lt_size (N _ hm).1
  have hne' : t ≠ s.heap.objs.size := Nat.ne_of_lt hlt
  refine call_max_walk (wpAny_pyIter_tuple ht ?_)
  have W := Walks.tuple (prog := prog) (w := w) (A := A.in1) hh s.heap.objs.size t hne' vs.toArray
  refine ⟨_, _, _, _, _, _, fun i j => gtB (bs.getD i 0) (bs.getD j 0), rfl, W, ⟨⟨_, Heap.get?_push_size _ rfl, rfl, rfl⟩, ht.at fun o e => Heap.get?_push_of_some _ e⟩, fun b hb => ?_, by rw [size_floats hf]; exact hne, fun i j vi vj s Q E hi hj h => ?_, fun v h' tk hP hk => ?_⟩
  · rcases List.mem_cons.mp hb with rfl | hb
    · exact Heap.lt_size (Heap.get?_push_size _ rfl)
    · obtain rfl := List.mem_singleton.mp hb
      exact Heap.lt_size (Heap.get?_push_of_some _ (N _ hm).1)
  · obtain ⟨b, t, rfl, e1⟩ := hf.at i vi (by simpa using hi)
    obtain ⟨c, u, rfl, e2⟩ := hf.at j vj (by simpa using hj)
    simp only [List.getD_eq_getElem?_getD, e1, e2, Option.getD_some] at h
    exact AutoFloatOps.gt_0 (by rw [cmp_gt]; exact h)
  · rw [size_floats hf] at hP
    obtain ⟨b, t, rfl, e1⟩ := hf.at _ v ((List.getElem?_toArray).symm.trans hP)
    have e2 := argBest_bits gtB bs (bs.length - 1) (by omega)
    rw [List.take_of_length_le (by rw [List.length_tail]; omega)] at e2
    rw [List.getD_eq_getElem?_getD, e1, Option.getD_some] at e2
    have kp := kept_iter hk
    rw [e2]; exact h h' tk t (F.grownK kp) (N.grown kp)
theorem min_floatsT (hh : A.handled = none) (F : Fr h₀ L s.heap m) (N : News h₀ L s.heap news) (hm : (t, ({ cls := .type "tuple", data := .seq vs.toArray } : Obj)) ∈ news) (hf : FloatsAre vs bs) (hne : 0 < bs.length)
    (h : ∀ h' tk t, Fr h₀ L h' m → News h₀ L h' news → Q (.float (minOfBits bs) t) { s with heap := h', toks := tk }) : wpAny (model prog w) A (call (.builtin "min") [.ref t]) Q E s := by
  have ht : s.heap.IsTuple t vs.toArray := ⟨_, (N _ hm).1, rfl, 0, rfl⟩
  have hlt := Heap.lt_size (N _ hm).1
  have hne' : t ≠ s.heap.objs.size := Nat.ne_of_lt hlt
  refine call_min_walk (wpAny_pyIter_tuple ht ?_)
  have W := Walks.tuple (prog := prog) (w := w) (A := A.in1) hh s.heap.objs.size t hne' vs.toArray
  refine ⟨_, _, _, _, _, _, fun i j => ltB (bs.getD i 0) (bs.getD j 0), rfl, W, ⟨⟨_, Heap.get?_push_size _ rfl, rfl, rfl⟩, ht.at fun o e => Heap.get?_push_of_some _ e⟩, fun b hb => ?_, by rw [size_floats hf]; exact hne, fun i j vi vj s Q E hi hj h => ?_, fun v h' tk hP hk => ?_⟩
  · rcases List.mem_cons.mp hb with rfl | hb
    · exact Heap.lt_size (Heap.get?_push_size _ rfl)
    · obtain rfl := List.mem_singleton.mp hb
      exact Heap.lt_size (Heap.get?_push_of_some _ (N _ hm).1)
  · obtain ⟨b, t, rfl, e1⟩ := hf.at i vi (by simpa using hi)
    obtain ⟨c, u, rfl, e2⟩ := hf.at j vj (by simpa using hj)
    simp only [List.getD_eq_getElem?_getD, e1, e2, Option.getD_some] at h
    exact AutoFloatOps.lt_0 h
  · rw [size_floats hf] at hP
    obtain ⟨b, t, rfl, e1⟩ := hf.at _ v ((List.getElem?_toArray).symm.trans hP)
    have e2 := argBest_bits ltB bs (bs.length - 1) (by omega)
    rw [List.take_of_length_le (by rw [List.length_tail]; omega)] at e2
    rw [List.getD_eq_getElem?_getD, e1, Option.getD_some] at e2
    have kp := kept_iter hk
    rw [e2]; exact h h' tk t (F.grownK kp) (N.grown kp)
end
end Mine

end
section
open PySem PySem.W PyProof.Rows PySem.Spec PySem.Calls
set_option Elab.async false
namespace Mine
theorem decS_low {n : Int} (h0 : 0 ≤ n) : ∀ c ∈ (decS n).cps.toList, 48 ≤ c ∧ c ≤ 57 := by
  obtain ⟨m, rfl⟩ := Int.eq_ofNat_of_zero_le h0
  intro c hc
  unfold decS at hc
  rw [KIN.signs_num] at hc
  obtain ⟨ch, hch, e⟩ := List.mem_map.mp hc
  have r := digit_range (Nat.isDigit_of_mem_toDigits (by decide) (by decide) hch)
  rw [← e]
  exact r
theorem fine_decS {n : Int} (h0 : 0 ≤ n) : FineStr (decS n) := by
  intro i hi
  have hm : (decS n).cps.getD i 0 ∈ (decS n).cps.toList := by
    rw [Array.getD_eq_getD_getElem?, Array.getElem?_eq_getElem hi, Option.getD_some]
    exact Array.mem_toList_iff.mpr (Array.getElem_mem hi)
  have := decS_low h0 _ hm
  exact ⟨by omega, by omega⟩
theorem len_decS {n : Int} (h0 : 0 ≤ n) (h1 : n < 10 ^ 10) : (decS n).length ≤ 1000 := Nat.le_trans (KT.len_num h0 h1) (by decide)
end Mine

end
section
open PySem PySem.W PyProof.Rows PySem.Spec PySem.Calls PyProof.V
set_option Elab.async false
set_option maxRecDepth 100000
set_option maxHeartbeats 8000000
namespace Mine
inductive ZVals : List (Int × Value) → List (Int × Int) → Prop
  | nil : ZVals [] []
  | cons (k n : Int) (t : Tok) {kvs zs} : ZVals kvs zs → ZVals ((k, .int n t) :: kvs) ((k, n) :: zs)
noncomputable def getZ : List (Int × Int) → Int → Int
  | [], _ => 0
  | e :: r, k => if e.1 = k then e.2 else getZ r k
noncomputable def hasZ : List (Int × Int) → Int → Bool
  | [], _ => false
  | e :: r, k => if e.1 = k then true else hasZ r k
noncomputable def replZ (k v : Int) : List (Int × Int) → List (Int × Int)
  | [] => []
  | e :: r => (if e.1 = k then (e.1, v) else e) :: replZ k v r
noncomputable def putZ (z : List (Int × Int)) (k v : Int) : List (Int × Int) := if hasZ z k then replZ k v z else z ++ [(k, v)]
noncomputable def addZ (z : List (Int × Int)) (k c : Int) : List (Int × Int) := putZ z k (getZ z k + c)
theorem ZVals.length {kvs z} (h : ZVals kvs z) : kvs.length = z.length := by
  induction h with
  | nil => rfl
  | cons _ _ _ _ ih => simp [ih]
theorem ZVals.value {kvs z} (h : ZVals kvs z) (k : Int) (t : Tok) : ∃ t', (valueAt kvs k).getD (.int 0 t) = .int (getZ z k) t' := by
  unfold valueAt
  induction h with
  | nil => exact ⟨t, rfl⟩
  | cons a n u _ ih =>
    by_cases e : a = k
    · subst e
      refine ⟨u, ?_⟩
      simp [getZ]
    · obtain ⟨t', h⟩ := ih
      refine ⟨t', ?_⟩
      simpa [getZ, e, List.find?_cons] using h
theorem ZVals.has {kvs z} (h : ZVals kvs z) (k : Int) : kvs.any (fun kv => kv.1 = k) = hasZ z k := by
  induction h with
  | nil => rfl
  | cons a n u _ ih =>
    by_cases e : a = k
    · simp [hasZ, e]
    · simp only [List.any_cons, hasZ, e, if_false, decide_false, Bool.false_or, ih]
theorem ZVals.repl {kvs z} (h : ZVals kvs z) (k v : Int) (t : Tok) : ZVals (kvs.map (fun kv => if kv.1 = k then (kv.1, Value.int v t) else kv)) (replZ k v z) := by
  induction h with
  | nil => exact .nil
  | cons a n u _ ih =>
    by_cases e : a = k
    · simp only [List.map_cons, replZ, e, if_true]
      exact .cons _ _ _ ih
    · simp only [List.map_cons, replZ, e, if_false]
      exact .cons _ _ _ ih
theorem ZVals.snoc {kvs z} (h : ZVals kvs z) (k v : Int) (t : Tok) : ZVals (kvs ++ [(k, .int v t)]) (z ++ [(k, v)]) := by
  induction h with
  | nil => exact .cons _ _ _ .nil
  | cons a n u _ ih => exact .cons _ _ _ ih
theorem ZVals.put {kvs z} (h : ZVals kvs z) (k v : Int) (t : Tok) : ZVals (stored kvs k (.int v t)) (putZ z k v) := by
  unfold stored putZ
  rw [h.has k]
  cases hasZ z k with
  | true => exact h.repl k v t
  | false => exact h.snoc k v t
theorem replZ_len (k v : Int) : ∀ z, (replZ k v z).length = z.length
  | [] => rfl
  | e :: r => by simp only [replZ, List.length_cons, replZ_len k v r]
theorem putZ_len (z : List (Int × Int)) (k v : Int) : (putZ z k v).length ≤ z.length + 1 := by
  unfold putZ
  split
  · rw [replZ_len]; omega
  · simp
section
variable {prog : Program} {w : World} {A : Around} {E : Value → Shared → Prop} {s : Shared} {h₀ : Heap} {L D : Addr} {m : Str → Option Value} {news : List (Addr × Obj)} {o : Obj} {kvs : List (Int × Value)} {z : List (Int × Int)} {k v : Int} {t u : Tok}
theorem get_Z {Q : Value → Shared → Prop} (N : News h₀ L s.heap news) (hp : (D, o) ∈ news) (hd : o.IsDictOf (PySem.intKind prog w) kvs) (lo : (D == sysModules) = false) (hz : ZVals kvs z)
    (h : ∀ t', Q (.int (getZ z k) t') { s with toks := s.toks + 1 }) : wpAny (model prog w) A (call (.builtin "dict.get") [.ref D, .int k t, .int 0 u]) Q E s := by
  obtain ⟨t', e⟩ := hz.value k u
  exact kdg_get2 N hp hd lo (intKind_is _ _ _ _) _ rfl (by rw [e]; exact h t')
theorem set_Z {Q : Unit → Shared → Prop} (F : Fr h₀ L s.heap m) (N : News h₀ L s.heap news) (hp : (D, o) ∈ news) (hd : o.IsDictOf (PySem.intKind prog w) kvs) (hz : ZVals kvs z) (hsz : z.length ≤ 64)
    (h : ∀ h' o' kvs', Fr h₀ L h' m → News h₀ L h' (upd D o' news) → o'.IsDictOf (PySem.intKind prog w) kvs' → ZVals kvs' (putZ z k v) → Q () { s with heap := h', toks := s.toks + 1 }) : wpAny (model prog w) A (setItem (.ref D) (.int k t) (.int v u)) Q E s := by
  have hm := N _ hp
  refine wpAny_setItem_pairs (hsz := by rw [hz.length, sizeLine_eq]; omega) (intKind_is _ _ _ _) (Heap.dictOf_iff.mpr ⟨o, hm.1, hd⟩) fun h' hmm hs => ?_
  obtain ⟨o', ho', hd'⟩ := Heap.dictOf_iff.mp hmm
  exact h h' o' _ (F.change hs hm.2.1 hm.2.2) (N.update hp hs ho') hd' (hz.put k v u)
end
end Mine

end
section
open PySem PySem.W PyProof.Rows PySem.Spec PySem.Calls PyProof.Rows.LCg PyProof.Rows.LCt PyProof.Rows.LCp PySem.Flt
set_option Elab.async false
set_option maxRecDepth 100000
set_option maxHeartbeats 8000000
namespace Mine
theorem freshConI : True := by
  w_top off
  trivial
theorem fillI : (fun (_ : OpenLaw) (_ : Params → Frag) => True) PySem.Challenge.rw_tp0024_01 hd.heap_39 := by
  k_fill
  trivial
variable (w : World) (mean : ExcName → Option Value) (mg mb : Str → Option Value)
theorem fine_one : FineStr (Str.ofString "1") := by
  intro i hi
  have : i = 0 := by
    have : (Str.ofString "1").cps.size = 1 := rfl
    omega
  subst this
  exact ⟨by decide, by decide⟩
theorem pre1 {l D : Addr} {a b : Str} {ta tb : Tok} {news : List (Addr × Obj)} (hf : FineStr a) (hb : FineStr b) :
    (l, W.listOf [Value.ref D].toArray 0) ∈ ((l, W.listOf #[Value.ref D] 0) :: (D, { cls := .type "tuple", data := .seq #[.str a ta, .str b tb] }) :: news) ∧
      (D, tupOf (.str a ta) (.str b tb) 0) ∈ ((l, W.listOf #[Value.ref D] 0) :: (D, { cls := .type "tuple", data := .seq #[.str a ta, .str b tb] }) :: news) ∧ FineStr a ∧ FineStr b := ⟨.head _, .tail _ (.head _), hf, hb⟩
theorem HdrIn.mono {nw nw' : List (Addr × Obj)} {self d hl : Addr} {hsh : Int} {tk : Tok} {nd nl : Nat} {items : List Value} (x : HdrIn nw self d hl hsh tk nd nl items) (k : ∀ p ∈ nw, isItB p.2 = false → p ∈ nw') : HdrIn nw' self d hl hsh tk nd nl items := by
  obtain ⟨a, b, c⟩ := x
  exact ⟨k _ a rfl, k _ b rfl, k _ c rfl⟩
structure NewOn (base nw : List (Addr × Obj)) (x d l : Addr) : Prop where
  sub : ∀ p ∈ base, p ∈ nw
  apart : ∀ p ∈ base, p.1 ≠ l ∧ p.1 ≠ x ∧ p.1 ≠ d
theorem hdr_on {own nw nw9 : List (Addr × Obj)} {x d hl : Addr} {hsh : Int} {tk : Tok} {nd nl : Nat} {items : List Value} (H : HdrIn nw x d hl hsh tk nd nl items) (S : ∀ p ∈ own ++ nw, p ∈ nw9) :
    HdrIn nw9 x d hl hsh tk nd nl items ∧ (x, instObj 203 d) ∈ nw9 ∧ (d, dictOf [⟨hsh, .str (Str.ofString "_headers") tk, .ref hl⟩] nd) ∈ nw9 ∧ (hl, W.listOf items.toArray nl) ∈ nw9 := by
  have h := H.mono (nw' := nw9) fun p hp _ => S p (List.mem_append_right _ hp)
  obtain ⟨a, b, c⟩ := h
  exact ⟨⟨a, b, c⟩, a, b, c⟩
theorem hdr_list {nw : List (Addr × Obj)} {x d hl : Addr} {hsh : Int} {tk : Tok} {nd nl : Nat} {items : List Value} (H : HdrIn nw x d hl hsh tk nd nl items) : (hl, W.listOf items.toArray nl) ∈ nw := by
  obtain ⟨_, _, c⟩ := H
  exact c
theorem book_on {own nw nw9 : List (Addr × Obj)} {vs : List Value} {es : List (Str × Str)} (B : BookIn nw vs es) (S : ∀ p ∈ own ++ nw, p ∈ nw9) : BookIn nw9 vs es :=
  B.mono fun _ _ _ _ h => S _ (List.mem_append_right _ h)
structure TOk (T : List Ent) : Prop where
  len : T.length ≤ 32
  rng : ∀ e ∈ T, 0 ≤ e.1 ∧ e.1 ≤ 2048
  crd : ∀ e ∈ T, 0 ≤ e.2.2 ∧ e.2.2 ≤ 1000000
theorem items_small {nw : List (Addr × Obj)} {items : List Value} {T : List Ent} (B : BookIn nw items (entsOf T)) (h : TOk T) : items.toArray.size ≤ sizeLine := by
  have := B.length
  have h2 := h.len
  rw [entsOf, List.length_map] at this
  rw [sizeLine_eq, List.size_toArray]
  omega
theorem strs_small {vs : List Value} {T : List Ent} (B : StrsAre vs ((entsOf T).map (·.1))) (h : TOk T) : vs.toArray.size ≤ sizeLine := by
  have := B.length
  have h2 := h.len
  rw [entsOf, List.length_map, List.length_map] at this
  rw [sizeLine_eq, List.size_toArray]
  omega
theorem name_get {vs : List Value} {T : List Ent} (B : StrsAre vs ((entsOf T).map (·.1))) (h : TOk T) {i : Nat} {v : Value} (e : vs[i]? = some v) :
    ∃ p g t, v = .str (nameOf p g) t ∧ (pursesT T)[i]? = some p ∧ 0 ≤ p ∧ p ≤ 2048 := by
  obtain ⟨x, t, rfl, hx⟩ := B.get e
  rw [entsOf, List.map_map, List.getElem?_map] at hx
  cases hT : T[i]? with
  | none => rw [hT] at hx; cases hx
  | some q =>
    rw [hT] at hx
    obtain rfl := Option.some.inj hx
    have r := h.rng q (List.mem_of_getElem? hT)
    exact ⟨q.1, q.2.1, t, rfl, by rw [pursesT, List.getElem?_map, hT]; rfl, r⟩
theorem intsAre_snoc {vs ns} (h : IntsAre vs ns) (n : Int) (t : Tok) : IntsAre (vs ++ [.int n t]) (ns ++ [n]) := by
  induction h with
  | nil => exact .cons _ _ .nil
  | cons _ _ _ ih => exact .cons _ _ ih
theorem keepG_mono {base nw nw' : List (Addr × Obj)} {hl : Addr} (h : ∀ p ∈ nw, p.1 ≠ hl → p ∈ nw') : ∀ p ∈ keepG base nw, p.1 ≠ hl → p ∈ keepG base nw' := fun p hp hne => by
  obtain ⟨a, b, c⟩ := of_mem_keepG hp
  exact mem_keepG (h p a hne) b c
/-- a table under work: nothing of the base is touched -/
structure AddSt (base led : List (Addr × Obj)) (x d l : Addr) (hsh : Int) (tk : Tok) (nd nl : Nat) (items : List Value) (es : List (Str × Str)) : Prop where
  sub : ∀ p ∈ base, p ∈ led
  hdr : HdrIn (keepG base led) x d l hsh tk nd nl items
  book : BookIn (keepG base led) items es
section
variable {base led led' : List (Addr × Obj)} {x d l t : Addr} {hsh : Int} {tk ta tb : Tok} {nd nl n : Nat} {items : List Value} {es : List (Str × Str)} {h₀ h : Heap} {L : Addr} {a b : Str}
theorem AddSt.mono (X : AddSt base led x d l hsh tk nd nl items es) (h : ∀ p ∈ led, p ∈ led') : AddSt base led' x d l hsh tk nd nl items es := by
  have hk : ∀ p ∈ keepG base led, p ∈ keepG base led' := fun p hp => by
    obtain ⟨a, b, c⟩ := of_mem_keepG hp
    exact mem_keepG (h p a) b c
  exact ⟨fun p hp => h p (X.sub p hp), X.hdr.mono fun p hp _ => hk p hp, X.book.mono fun _ _ _ _ hp => hk _ hp⟩
theorem AddSt.on (X : AddSt base led x d l hsh tk nd nl items es) : HdrIn led x d l hsh tk nd nl items ∧ (x, instObj 203 d) ∈ led ∧ (d, dictOf [⟨hsh, .str (Str.ofString "_headers") tk, .ref l⟩] nd) ∈ led ∧ (l, W.listOf items.toArray nl) ∈ led := by
  have H := X.hdr.mono (nw' := led) fun p hp _ => (of_mem_keepG hp).1
  obtain ⟨a, b, c⟩ := H
  exact ⟨⟨a, b, c⟩, a, b, c⟩
theorem AddSt.add (X : AddSt base led x d l hsh tk nd nl items es) (N : News h₀ L h led) (hap : ∀ p ∈ base, p.1 ≠ l) (ht : ∀ p ∈ led, p.1 < t) :
    AddSt base ((t, tupOf (.str a ta) (.str b tb) n) :: upd l (W.listOf (items ++ [Value.ref t]).toArray (nl + 1)) led) x d l hsh tk nd (nl + 1) (items ++ [Value.ref t]) (es ++ [(a, b)]) := by
  obtain ⟨H, hx, hd, hl⟩ := X.on
  have keep : ∀ p ∈ led, p.1 ≠ l → p ∈ (t, tupOf (.str a ta) (.str b tb) n) :: upd l (W.listOf (items ++ [Value.ref t]).toArray (nl + 1)) led := fun p hp hne => .tail _ (mem_upd_ne hp hne)
  have kk := keepG_mono (base := base) keep
  obtain ⟨h1, h2, h3⟩ := X.hdr
  refine ⟨fun p hp => keep p (X.sub p hp) (hap p hp), ⟨kk _ h1 ?_, kk _ h2 ?_, mem_keepG (.tail _ (mem_upd_self hl)) rfl fun q hq => hap q hq⟩, BookIn.snoc ?_ (mem_keepG (.head _) rfl fun q hq => Nat.ne_of_lt (ht q (X.sub q hq)))⟩
  · exact news_ne N hx hl (by intro e; injection e; done)
  · exact news_ne N hd hl (by intro e; injection e with e; exact absurd e (by decide))
  · exact X.book.mono fun t' a' b' n' hp => kk _ hp (news_ne N (of_mem_keepG hp).1 hl (by intro e; injection e with e; exact absurd e (by decide)))
theorem AddSt.added {h' : Heap} {a b : Str} (X : AddSt base led x d l hsh tk nd nl items es) (N : News h₀ L h led) (hap : ∀ p ∈ base, p.1 ≠ l) (N' : News h₀ L h' ((t, tupOf (.str a ta) (.str b tb) n) :: upd l (W.listOf (items ++ [Value.ref t]).toArray (nl + 1)) led)) (ht : ∀ p ∈ led, p.1 < t) :
    ∃ led', (∀ p ∈ led, p.1 ≠ l → p ∈ led') ∧ AddSt base led' x d l hsh tk nd (nl + 1) (items ++ [Value.ref t]) (es ++ [(a, b)]) ∧ News h₀ L h' led' :=
  ⟨_, fun _ hp hne => .tail _ (mem_upd_ne hp hne), X.add N hap ht, N'⟩
/-- what stands before a turn of the purses -/
def JL (m0 : List (Str × Value)) (lf : Int) (base : List (Addr × Obj)) (x d hl : Addr) (hsh : Int) (tk : Tok) (nd : Nat) (es : Nat → List Ent) (i : Nat) (m : Str → Option Value) (nw : List (Addr × Obj)) : Prop :=
  (∀ q ∈ m0, m q.1 = some q.2) ∧ m (Str.ofString "later") = some (.ref x) ∧ (∃ t, m (Str.ofString "left") = some (.int lf t)) ∧ ∃ nl items, AddSt base nw x d hl hsh tk nd nl items (entsOf (es i))
theorem AddSt.start {I : Addr} {oI : Obj} {own2 : List (Addr × Obj)} (X : AddSt base led x d l hsh tk nd nl items es) (hI : (I, oI) ∈ own2) (hnI : ∀ p ∈ led, p.1 ≠ I) : AddSt ((I, oI) :: base) (own2 ++ led) x d l hsh tk nd nl items es := by
  have kk : ∀ p ∈ keepG base led, p ∈ keepG ((I, oI) :: base) (own2 ++ led) := fun p hp => by
    obtain ⟨a, b, c⟩ := of_mem_keepG hp
    refine mem_keepG (List.mem_append_right _ a) b fun q hq => ?_
    rcases List.mem_cons.mp hq with rfl | hq
    · exact fun e => hnI p a e.symm
    · exact c q hq
  refine ⟨fun p hp => ?_, X.hdr.mono fun p hp _ => kk p hp, X.book.mono fun _ _ _ _ hp => kk _ hp⟩
  rcases List.mem_cons.mp hp with rfl | hp
  · exact List.mem_append_left _ hI
  · exact List.mem_append_right _ (X.sub p hp)
noncomputable def offI (I : Addr) (led : List (Addr × Obj)) : List (Addr × Obj) := led.filter fun p => !(Nat.beq p.1 I)
theorem mem_offI {I : Addr} {led : List (Addr × Obj)} {p : Addr × Obj} (h : p ∈ led) (hne : p.1 ≠ I) : p ∈ offI I led :=
  List.mem_filter.mpr ⟨h, by rw [show Nat.beq p.1 I = false from Bool.eq_false_iff.mpr fun e => hne (Nat.eq_of_beq_eq_true e)]; rfl⟩
theorem of_mem_offI {I : Addr} {led : List (Addr × Obj)} {p : Addr × Obj} (h : p ∈ offI I led) : p ∈ led ∧ p.1 ≠ I := by
  obtain ⟨a, b⟩ := List.mem_filter.mp h
  refine ⟨a, fun e => ?_⟩
  rw [e] at b
  simp at b
theorem AddSt.finish {I : Addr} {oI : Obj} (X : AddSt ((I, oI) :: base) led x d l hsh tk nd nl items es) (hb : ∀ p ∈ base, p.1 ≠ I) : AddSt base (offI I led) x d l hsh tk nd nl items es := by
  have kk : ∀ p ∈ keepG ((I, oI) :: base) led, p ∈ keepG base (offI I led) := fun p hp => by
    obtain ⟨a, b, c⟩ := of_mem_keepG hp
    exact mem_keepG (mem_offI a fun e => c (I, oI) (.head _) e.symm) b fun q hq => c q (.tail _ hq)
  exact ⟨fun p hp => mem_offI (X.sub p (.tail _ hp)) (hb p hp), X.hdr.mono fun p hp _ => kk p hp, X.book.mono fun _ _ _ _ hp => kk _ hp⟩
theorem flat_len {o0 o1 z : Int} {T : List Ent} : ∀ (l : List Int), (l.flatMap (playT o0 o1 z T)).length = 2 * l.length
  | [] => rfl
  | a :: r => by
    rw [List.flatMap_cons, List.length_append, flat_len r, List.length_cons]
    show 2 + _ = _
    omega
theorem sset_len (ns : List Int) : (sset ns).length ≤ ns.length := by
  have h1 := (isort_perm (dedup [] ns)).length_eq
  have : ∀ (ns acc : List Int), (dedup acc ns).length ≤ acc.length + ns.length := by
    intro ns
    induction ns with
    | nil => intro acc; exact Nat.le_refl _
    | cons a r ih =>
      intro acc
      unfold dedup
      have := ih (if acc.contains a then acc else a :: acc)
      split at this
      · simp only [List.length_cons]; rename_i h; rw [if_pos h]; omega
      · simp only [List.length_cons] at this ⊢; rename_i h; rw [if_neg h]; omega
  have h2 := this ns []
  show (isort (dedup [] ns)).length ≤ _
  rw [h1]
  simpa using h2
theorem AddSt.size {o0 o1 z : Int} {T : List Ent} {i : Nat} (X : AddSt base led x d l hsh tk nd nl items (entsOf (((sset (pursesT T)).take i).flatMap (playT o0 o1 z T)))) (h : TOk T) : items.length ≤ 64 := by
  have a := X.book.length
  rw [entsOf, List.length_map, flat_len, List.length_take] at a
  have b := sset_len (pursesT T)
  rw [pursesT, List.length_map] at b
  have c := h.len
  have : min i (sset (pursesT T)).length ≤ (sset (pursesT T)).length := Nat.min_le_right _ _
  unfold pursesT at this a
  omega
theorem size_of {items : List Value} (h : items.length ≤ 66) : items.toArray.size ≤ sizeLine := by
  rw [sizeLine_eq, List.size_toArray]; omega
end
structure AllBelow (l : List (Addr × Obj)) (D : Addr) : Prop where
  lt : ∀ p ∈ l, p.1 < D
theorem ents_snoc {o0 o1 z p : Int} {T : List Ent} {l : List Int} {i : Nat} (hp : l[i]? = some p) : entsOf ((l.take (i + 1)).flatMap (playT o0 o1 z T)) =
    (entsOf ((l.take i).flatMap (playT o0 o1 z T)) ++ [(nameOf (p + min p (2048 - p) / z) true, decS (((T.filter fun e => e.1 == p).map (·.2.2)).sum * o0))]) ++ [(nameOf (p - min p (2048 - p) / z) false, decS (((T.filter fun e => e.1 == p).map (·.2.2)).sum * o1))] := by
  rw [List.take_add_one, hp, List.flatMap_append, entsOf, List.map_append, List.append_assoc]
  rfl
theorem sub4 {a b c d : Addr × Obj} {l q nwd : List (Addr × Obj)} (h : a :: b :: c :: q = nwd) (h2 : d :: l = q) : ∀ p ∈ l, p ∈ nwd := fun p hp => by
  rw [← h, ← h2]
  exact .tail _ (.tail _ (.tail _ (.tail _ hp)))
theorem jl_first {m0 : List (Str × Value)} {lf : Int} {t : Tok} {base nw9 nwd : List (Addr × Obj)} {x d l : Addr} {hsh : Int} {tk : Tok} {nd nl : Nat} {es : Nat → List Ent} {m : Str → Option Value} (Z : NewOn base nw9 x d l) (H : HdrIn nw9 x d l hsh tk nd nl [])
    (hs : ∀ p ∈ nw9, p ∈ nwd) (he : es 0 = []) (hm : ∀ q ∈ m0, m q.1 = some q.2) (hm2 : m (Str.ofString "later") = some (.ref x)) (hm3 : m (Str.ofString "left") = some (.int lf t)) : JL m0 lf base x d l hsh tk nd es 0 m nwd := by
  obtain ⟨a, b, c⟩ := H
  exact ⟨hm, hm2, ⟨_, hm3⟩, nl, [], fun p hp => hs p (Z.sub p hp), ⟨mem_keepG (hs _ a) rfl (fun q hq => (Z.apart q hq).2.1), mem_keepG (hs _ b) rfl (fun q hq => (Z.apart q hq).2.2), mem_keepG (hs _ c) rfl (fun q hq => (Z.apart q hq).1)⟩, by rw [he]; exact .nil⟩
theorem sset_mem {ns : List Int} {p : Int} (h : p ∈ sset ns) : p ∈ ns := by
  have h1 := (isort_perm _).mem_iff.mp h
  have : ∀ (ns acc : List Int), p ∈ dedup acc ns → p ∈ acc ∨ p ∈ ns := by
    intro ns
    induction ns with
    | nil => intro acc h; exact .inl h
    | cons a r ih =>
      intro acc h
      unfold dedup at h
      rcases ih _ h with h | h
      · split at h
        · exact .inl h
        · rcases List.mem_cons.mp h with rfl | h
          · exact .inr (.head _)
          · exact .inl h
      · exact .inr (.tail _ h)
  rcases this ns [] h1 with h | h
  · cases h
  · exact h
theorem purse_rng {T : List Ent} (h : TOk T) {p : Int} (hp : p ∈ pursesT T) : 0 ≤ p ∧ p ≤ 2048 := by
  obtain ⟨e, he, rfl⟩ := List.mem_map.mp hp
  exact h.rng e he
theorem names_short (T : List Ent) : ∀ e ∈ entsOf T, e.1.length ≤ 5592405 := by
  intro e he
  obtain ⟨q, _, rfl⟩ := List.mem_map.mp he
  show (nameOf q.1 q.2.1).length ≤ 5592405
  rw [len_nameOf]; omega
theorem fine_low {p : Int} (g : Bool) (h : 0 ≤ p ∧ p ≤ 2048) : FineStr (Txt.lower (nameOf p g)) := by
  rw [lower_name p g h]; exact fine_nameOf p false h
theorem lower_eq {p q : Int} (g g' : Bool) (hp : 0 ≤ p ∧ p ≤ 2048) (hq : 0 ≤ q ∧ q ≤ 2048) : (Txt.lower (nameOf p g) == Txt.lower (nameOf q g')) = (p == q) := by
  rw [lower_name p g hp, lower_name q g' hq]
  by_cases e : p = q
  · subst e; simp
  · rw [beq_eq_false_iff_ne.mpr e, beq_eq_false_iff_ne]
    intro h
    have a := purse_all p hp
    rw [h, purse_all q hq] at a
    exact e a.symm
theorem got_eq {T : List Ent} (h : TOk T) {p : Int} (g : Bool) (hp : 0 ≤ p ∧ p ≤ 2048) :
    ((entsOf T).filter fun e => Txt.lower e.1 == Txt.lower (nameOf p g)).map (·.2) = ((T.filter fun e => e.1 == p).map (·.2.2)).map decS := by
  have hr := h.rng
  clear h
  induction T with
  | nil => rfl
  | cons e r ih =>
    have ih := ih fun x hx => hr x (.tail _ hx)
    show (((nameOf e.1 e.2.1, decS e.2.2) :: entsOf r).filter _).map _ = _
    have he := lower_eq e.2.1 g (hr e (.head _)) hp
    cases c : (e.1 == p) with
    | true =>
      rw [c] at he
      simp only [List.filter_cons, he, c, if_true, List.map_cons, ih]
    | false =>
      rw [c] at he
      simp only [List.filter_cons, he, c, Bool.false_eq_true, if_false, ih]
structure Got (T : List Ent) (p : Int) (vs : List Value) : Prop where
  are : StrsAre vs (((T.filter fun e => e.1 == p).map (·.2.2)).map decS)
theorem Got.small {T : List Ent} {p : Int} {vs : List Value} (G : Got T p vs) (h : TOk T) : vs.toArray.size ≤ sizeLine := by
  have a := G.are.length
  have b := h.len
  have c := List.length_filter_le (fun e : Ent => e.1 == p) T
  rw [List.length_map, List.length_map] at a
  rw [sizeLine_eq, List.size_toArray]
  omega
theorem Got.get {T : List Ent} {p : Int} {vs : List Value} (G : Got T p vs) (h : TOk T) {i : Nat} {v : Value} (e : vs[i]? = some v) :
    ∃ c t, v = .str (decS c) t ∧ ((T.filter fun e => e.1 == p).map (·.2.2))[i]? = some c ∧ 0 ≤ c ∧ c < 10 ^ 10 := by
  obtain ⟨x, t, rfl, hx⟩ := G.are.get e
  rw [List.getElem?_map] at hx
  cases hT : ((T.filter fun e => e.1 == p).map (·.2.2))[i]? with
  | none => rw [hT] at hx; cases hx
  | some c =>
    rw [hT] at hx
    obtain rfl := Option.some.inj hx
    obtain ⟨q, hq, rfl⟩ := List.mem_map.mp (List.mem_of_getElem? hT)
    have r := h.crd q (List.mem_filter.mp hq).1
    exact ⟨_, t, rfl, rfl, r.1, by omega⟩
theorem crowd_bound {T : List Ent} (h : TOk T) (p : Int) : 0 ≤ ((T.filter fun e => e.1 == p).map (·.2.2)).sum ∧ ((T.filter fun e => e.1 == p).map (·.2.2)).sum ≤ 32000000 := by
  have hc := h.crd
  have hl := h.len
  have : 0 ≤ ((T.filter fun e => e.1 == p).map (·.2.2)).sum ∧ ((T.filter fun e => e.1 == p).map (·.2.2)).sum ≤ 1000000 * (T.length : Int) := by
    clear h hl
    induction T with
    | nil => exact ⟨Int.le_refl _, Int.le_refl _⟩
    | cons e r ih =>
      have ih := ih fun x hx => hc x (.tail _ hx)
      have he := hc e (.head _)
      cases c : (e.1 == p) with
      | true =>
        simp only [List.filter_cons, c, if_true, List.map_cons, List.sum_cons, List.length_cons]
        omega
      | false =>
        simp only [List.filter_cons, c, Bool.false_eq_true, if_false, List.length_cons]
        omega
  omega
theorem repr_k {A : Around} {E : Value → Shared → Prop} {s : Shared} {Q : Value → Shared → Prop} {prog : Program} {w : World} {n : Int} {t : Tok} (h0 : 0 ≤ n) (h1 : n < 10000000000) (h : Q (.str (decS n) s.toks) { s with toks := s.toks + 1 }) :
    wpAny (model prog w) A (call (.builtin "repr") [.int n t]) Q E s :=
  P.repr_of_int (shown (N := 10000000000) (by omega) h1 (by decide)) h
theorem prod_b {a b : Int} (h0 : 0 ≤ a) (h1 : a ≤ 32000000) (h2 : 1 ≤ b) (h3 : b ≤ 5) : 0 ≤ a * b ∧ a * b ≤ 160000000 := by
  have e1 := Int.mul_nonneg h0 (show 0 ≤ b by omega)
  have e2 := Int.mul_le_mul h1 h3 (by omega) (by omega)
  omega
noncomputable def dvF (p q : Int) : UInt64 := Float64.ofFrac (decide (p < 0) != decide (q < 0)) p.natAbs q.natAbs
theorem div_k {A : Around} {E : Value → Shared → Prop} {s : Shared} {Q : Value → Shared → Prop} {prog : Program} {w : World} {p q : Int} {t u : Tok} (hA : A.handled = none) (hb : q ≠ 0) (hp : 0 ≤ p ∧ p ≤ 2048) (h : Q (.float (dvF p q) s.toks) { s with toks := s.toks + 1 }) :
    wpAny (model prog w) A (binaryOp .Div (.int p t) (.int q u)) Q E s :=
  div_ii_fits hA (Nat.lt_of_le_of_lt (by omega : p.natAbs ≤ 2048) (by decide)) (fun h => absurd h hb) (fun _ _ => h)
theorem int_fl {A : Around} {E : Value → Shared → Prop} {s : Shared} {Q : Value → Shared → Prop} {prog : Program} {w : World} {x : UInt64} {t : Tok} {n : Int} (hf : Float64.isFinite x = true) (hv : toInt Float64.truncOf x = n) (h : Q (.int n s.toks) { s with toks := s.toks + 1 }) :
    wpAny (model prog w) A (call (.type "int") [.float x t]) Q E s := by
  subst hv
  rcases three x with ⟨hd, c⟩ | ⟨_, hd, c⟩ | ⟨sg, m, e, hd, c⟩
  · unfold Float64.isFinite at hf; rw [hd] at hf; cases hf
  · unfold Float64.isFinite at hf; rw [hd] at hf; cases hf
  · rw [toInt_fin hd] at h
    exact call_int_float hd h
noncomputable def rF (hu l sa : UInt64) : UInt64 := vF (m1F l sa) (m2F l sa) (Float64.add hu 4599676419421066581)
noncomputable def gF (hu l sa : UInt64) : UInt64 := vF (m1F l sa) (m2F l sa) hu
noncomputable def bF (hu l sa : UInt64) : UInt64 := vF (m1F l sa) (m2F l sa) (Float64.sub hu 4599676419421066581)
theorem hls_k (hu l sa : UInt64) (t1 t2 t3 : Tok) (news : List (Addr × Obj)) :
    Cl w mean mg mb 45 3 24 [.float hu t1, .float l t2, .float sa t3] [] news ((Float64.cmp sa 0 == some Ordering.eq) = false)
      (fun _ h₀ L h' v => ∃ t ta tb tc, v = Value.ref t ∧ News h₀ L h' ((t, tup3 (.float (rF hu l sa) ta) (.float (gF hu l sa) tb) (.float (bF hu l sa) tc)) :: news) ∧ ∀ p ∈ news, p.1 < t) := hls_c w mean mg mb hu l sa t1 t2 t3 news
structure LightOK (hue : UInt64) (p z : Int) : Prop where
  z0 : z ≠ 0
  sa : (Float64.cmp (dvF 1 z) 0 == some Ordering.eq) = false
  hf : Float64.isFinite (Float64.mul (maxOfBits [rF hue (dvF p 2048) (dvF 1 z), gF hue (dvF p 2048) (dvF 1 z), bF hue (dvF p 2048) (dvF 1 z)]) (Float64.ofInt 2048)) = true
  hv : toInt Float64.truncOf (Float64.mul (maxOfBits [rF hue (dvF p 2048) (dvF 1 z), gF hue (dvF p 2048) (dvF 1 z), bF hue (dvF p 2048) (dvF 1 z)]) (Float64.ofInt 2048)) = p + min p (2048 - p) / z
  lf : Float64.isFinite (Float64.mul (minOfBits [rF hue (dvF p 2048) (dvF 1 z), gF hue (dvF p 2048) (dvF 1 z), bF hue (dvF p 2048) (dvF 1 z)]) (Float64.ofInt 2048)) = true
  lv : toInt Float64.truncOf (Float64.mul (minOfBits [rF hue (dvF p 2048) (dvF 1 z), gF hue (dvF p 2048) (dvF 1 z), bF hue (dvF p 2048) (dvF 1 z)]) (Float64.ofInt 2048)) = p - min p (2048 - p) / z
  hr : 0 ≤ p + min p (2048 - p) / z ∧ p + min p (2048 - p) / z ≤ 2048
  lr : 0 ≤ p - min p (2048 - p) / z ∧ p - min p (2048 - p) / z ≤ 2048
def Hold (P : Prop) : Prop := P
theorem hold_of {P : Prop} (h : Hold P) : P := h
noncomputable def crowdsZ (M : Int) (T : List Ent) : List (Int × Int) := T.foldl (fun d e => addZ d e.1 (e.2.2 * M)) []
theorem crowdsZ_snoc {M : Int} {T : List Ent} {i : Nat} {e : Ent} (h : T[i]? = some e) : crowdsZ M (T.take (i + 1)) = addZ (crowdsZ M (T.take i)) e.1 (e.2.2 * M) := by
  unfold crowdsZ
  rw [List.take_add_one, h, List.foldl_append]
  rfl
theorem addZ_len (z : List (Int × Int)) (k c : Int) : (addZ z k c).length ≤ z.length + 1 := putZ_len _ _ _
theorem crowdsZ_len (M : Int) (T : List Ent) : (crowdsZ M T).length ≤ T.length := by
  have : ∀ (T : List Ent) (d : List (Int × Int)), (T.foldl (fun d e => addZ d e.1 (e.2.2 * M)) d).length ≤ d.length + T.length := by
    intro T
    induction T with
    | nil => intro d; exact Nat.le_refl _
    | cons e r ih =>
      intro d
      have a := ih (addZ d e.1 (e.2.2 * M))
      have b := addZ_len d e.1 (e.2.2 * M)
      rw [List.foldl_cons, List.length_cons]
      omega
  have h := this T []
  rw [List.length_nil, Nat.zero_add] at h
  exact h
theorem pow_b {x : Int} (h0 : 1 ≤ x) (h1 : x ≤ 10) : ∀ n : Nat, 0 ≤ x ^ n ∧ x ^ n ≤ 10 ^ n
  | 0 => by simp
  | n + 1 => by
    obtain ⟨a, b⟩ := pow_b h0 h1 n
    rw [Int.pow_succ, Int.pow_succ]
    exact ⟨Int.mul_nonneg a (by omega), Int.mul_le_mul b h1 (by omega) (Int.pow_nonneg (by decide))⟩
theorem upd_addr {D : Addr} {o : Obj} {l : List (Addr × Obj)} {p : Addr × Obj} (h : p ∈ upd D o l) : ∃ q ∈ l, q.1 = p.1 := by
  obtain ⟨q, hq, rfl⟩ := List.mem_map.mp h
  refine ⟨q, hq, ?_⟩
  by_cases e : q.1 = D
  · rw [if_pos e]; exact e
  · rw [if_neg e]
theorem upd_end {h₀ h : Heap} {L D I : Addr} {o o' : Obj} {own nw₁ : List (Addr × Obj)} (N : News h₀ L h (upd D o' (own ++ nw₁))) (hDo : (D, o) ∈ nw₁) (hown : ∀ q ∈ own, q.1 ≠ D) (hnI : ∀ p ∈ nw₁, p.1 ≠ I) :
    ∃ nw', News h₀ L h (own ++ nw') ∧ (∀ p ∈ nw', p.1 ≠ I) ∧ (D, o') ∈ nw' ∧ ∀ p ∈ nw₁, p.1 ≠ D → p ∈ nw' := by
  refine ⟨upd D o' nw₁, fun p hp => N p ?_, fun p hp => ?_, mem_upd_self hDo, fun p hp hne => mem_upd_ne hp hne⟩
  · rcases List.mem_append.mp hp with hp | hp
    · exact mem_upd_ne (List.mem_append_left _ hp) (hown p hp)
    · obtain ⟨q, hq, rfl⟩ := List.mem_map.mp hp
      exact List.mem_map.mpr ⟨q, List.mem_append_right _ hq, rfl⟩
  · obtain ⟨q, hq, e⟩ := upd_addr hp
    rw [← e]; exact hnI q hq
theorem ten_pow {n : Nat} (h : n ≤ 4) : (10 : Int) ^ n ≤ 10000 := (show ∀ n ≤ 4, (10 : Int) ^ n ≤ 10000 by decide) n h
theorem ent_get {nw : List (Addr × Obj)} {vs : List Value} {T : List Ent} (B : BookIn nw vs (entsOf T)) (h : TOk T) {i : Nat} {v : Value} (e : vs[i]? = some v) :
    ∃ q t ta tb n, v = Value.ref t ∧ T[i]? = some q ∧ (t, tupOf (.str (nameOf q.1 q.2.1) ta) (.str (decS q.2.2) tb) n) ∈ nw ∧ (0 ≤ q.1 ∧ q.1 ≤ 2048) ∧ 0 ≤ q.2.2 ∧ q.2.2 ≤ 1000000 := by
  obtain ⟨t, a, b, ta, tb, n, rfl, he, hm⟩ := B.get e
  rw [entsOf, List.getElem?_map] at he
  cases hT : T[i]? with
  | none => rw [hT] at he; cases he
  | some q =>
    rw [hT] at he
    obtain ⟨rfl, rfl⟩ := Prod.mk.inj (Option.some.inj he)
    have hq := List.mem_of_getElem? hT
    exact ⟨q, t, ta, tb, n, rfl, rfl, hm, h.rng q hq, h.crd q hq⟩
/-- what stands before a turn over the last table -/
def JD (w : World) (od D : Addr) (lf : Int) (M : Int) (T : List Ent) (base : List (Addr × Obj)) (i : Nat) (m : Str → Option Value) (nw : List (Addr × Obj)) : Prop :=
  m (Str.ofString "odds") = some (.ref od) ∧ (∃ t, m (Str.ofString "left") = some (.int lf t)) ∧ m (Str.ofString "crowds") = some (.ref D) ∧ (∀ p ∈ base, p ∈ nw) ∧
    ∃ o kvs, (D, o) ∈ nw ∧ o.IsDictOf (PySem.intKind PG w) kvs ∧ ZVals kvs (crowdsZ M (T.take i))
inductive ModeG : Prop | mk
inductive ModeL : Prop | mk
section
local macro_rules | `(tactic| walk_at "exec For Name Call cons nil") => `(tactic| (k_here; (have hmode : ModeG := by assumption); (clear hmode); k_dflt (refine' For_G _ ?k1 ?k2 ?k4 ?_ ?k5 ?k6; (case k1 => k_asm); (case k2 => rfl); (case k4 => rfl); (case k5 => (intro _; rfl)); (case k6 => passes_own); k_whole)))
local macro_rules | `(tactic| walk_at "exec For Name Call cons nil") => `(tactic| (k_here; (have hmode : ModeL := by assumption); (clear hmode); k_dflt (refine' For_L _ ?k1 ?k2 ?k4 ?_ ?k5 ?k6; (case k1 => k_asm); (case k2 => rfl); (case k4 => rfl); (case k5 => (intro _; rfl)); (case k6 => passes_own); k_whole)))
local macro_rules | `(tactic| walk_at "call ref") => `(tactic| (k_here; (with_reducible show wpAny _ _ (call (Value.ref _) _ _) _ _ _); refine hold_of ?_))
local macro_rules | `(tactic| walk_at "call ref") => `(tactic| (k_here; (with_reducible show wpAny _ _ (call (Value.ref 59) _ _) _ _ _); fail "stop"))
local macro_rules | `(tactic| walk_at "CompSrc") => `(tactic| (k_here; k_dflt (refine LCg.CompSrc.ledger (by rfl) (by k_asm) (by k_asm) (by k_mem) (by assumption) ?_); intro g9))
local macro_rules | `(tactic| walk_at "call type:set") => `(tactic| (k_here; (with_reducible show wpAny _ _ (call (Value.type _) [Value.ref _]) _ _ _); k_dflt (refine' set_K ?F ?N ?m ?h ?i ?o ?_; (case F => k_asm); (case N => k_asm); (case m => k_mem); (case h => rfl); (case i => assumption); (case o => assumption); k_whole; intro S9 h9 tk9 es9 ep9 t9 F9 N9 l9 hS9)))
local macro_rules | `(tactic| walk_at "call builtin:sorted") => `(tactic| (k_here; (with_reducible show wpAny _ _ (call (Value.builtin _) [Value.ref _]) _ _ _); k_dflt (refine' sortedSet_K ?F ?N ?m ?h ?i ?_; (case F => k_asm); (case N => k_asm); (case m => k_mem); (case h => rfl); (case i => assumption); k_whole; intro D9 h9 tk9 vs9 n9 F9 N9 l9 hI9; (have Y9 := AllBelow.mk l9))))
local macro_rules | `(tactic| walk_at "call type:int") => `(tactic| (k_here; (with_reducible show wpAny _ _ (call (Value.type _) [Value.str (decS _) _]) _ _ _); (refine KIN.call_num (by assumption) (by assumption) ?_)))
local macro_rules | `(tactic| walk_at "call builtin:max") => `(tactic| (k_here; (with_reducible show wpAny _ _ (call (Value.builtin _) [Value.ref _]) _ _ _); k_dflt (refine' max_floatsT ?h ?F ?N ?m ?f ?z ?_; (case h => rfl); (case F => k_asm); (case N => k_asm); (case m => k_mem); (case f => exact .cons _ _ (.cons _ _ (.cons _ _ .nil))); (case z => exact Nat.zero_lt_succ _); k_whole; intro h9 tk9 t9 F9 N9)))
local macro_rules | `(tactic| walk_at "call builtin:min") => `(tactic| (k_here; (with_reducible show wpAny _ _ (call (Value.builtin _) [Value.ref _]) _ _ _); k_dflt (refine' min_floatsT ?h ?F ?N ?m ?f ?z ?_; (case h => rfl); (case F => k_asm); (case N => k_asm); (case m => k_mem); (case f => exact .cons _ _ (.cons _ _ (.cons _ _ .nil))); (case z => exact Nat.zero_lt_succ _); k_whole; intro h9 tk9 t9 F9 N9)))
local macro_rules | `(tactic| walk_at "call builtin:repr") => `(tactic| (k_here; (with_reducible show wpAny _ _ (call (Value.builtin _) [Value.int _ _]) _ _ _); k_dflt (refine repr_k (by omega) (by omega) ?_)))
local macro_rules | `(tactic| walk_at "binaryOp Div int int") => `(tactic| (k_here; (with_reducible show wpAny _ _ (binaryOp _ (Value.int _ _) (Value.int _ _)) _ _ _); k_dflt (refine div_k (by rfl) (by first | assumption | decide) (by first | assumption | exact ⟨by decide, by decide⟩) ?_)))
local macro_rules | `(tactic| walk_at "call type:int") => `(tactic| (k_here; (with_reducible show wpAny _ _ (call (Value.type _) [Value.float _ _]) _ _ _); (first | (with_reducible refine int_fl (LightOK.hf (by assumption)) (LightOK.hv (by assumption)) ?_) | (with_reducible refine int_fl (LightOK.lf (by assumption)) (LightOK.lv (by assumption)) ?_))))
local macro_rules | `(tactic| walk_at "exec For Tuple") => `(tactic| (k_here; k_dflt (refine' For_P _ ?k1 ?k2 ?k3 ?k4 ?_ ?k5 ?k6; (case k1 => k_asm); (case k2 => rfl); (case k3 => rfl); (case k4 => rfl); (case k5 => (intro _; rfl)); (case k6 => passes_own); k_whole)))
local macro_rules | `(tactic| walk_at "getMethod ref") => `(tactic| (k_here; (with_reducible show wpAny _ _ (getMethod (Value.ref _) (Str.ofString "get") _) _ _ _); k_dflt (refine kdg_method (knd := PySem.intKind _ _) (by k_asm) (by k_mem) (by assumption) ?_)))
local macro_rules | `(tactic| walk_at "call builtin:dict.get") => `(tactic| (k_here; (with_reducible show wpAny _ _ (call (Value.builtin _) [Value.ref _, Value.int _ _, Value.int _ _]) _ _ _); k_dflt (refine get_Z (by k_asm) (by k_mem) (by assumption) (by assumption) (by assumption) ?_); intro t9))
local macro_rules | `(tactic| walk_at "setItem ref int") => `(tactic| (k_here; (with_reducible show wpAny _ _ (setItem (Value.ref _) (Value.int _ _) (Value.int _ _)) _ _ _); k_dflt (refine set_Z (by k_asm) (by k_asm) (by k_mem) (by assumption) (by assumption) (by assumption) ?_); intro h9 o9 kvs9 F9 N9 hd9 hz9))
local macro_rules | `(tactic| walk_at "call ref") => `(tactic| (k_here; (try dsimp only); (with_reducible show wpAny _ _ (call (Value.ref 167) _ _) _ _ _); k_dflt (refine' items_c _ _ _ _ _ _ _ _ _ _ _ _ _ _ _ _ _ _ _ _ _ _ _ _ _ _ _ _ _ _ ?k1 ?k2 ?k3 ?k4 ?k5 ?kK ?kp ?kd ?ku ?_; walk_at "U9 all"; (case kp => exact ⟨HdrIn.mono (by assumption) (fun p hp _ => List.Mem.tail _ hp), items_small (by assumption) (by assumption)⟩); k_whole; intro v9 h9 tk9 F9 r9; obtain ⟨D9, e9, N9, ap9⟩ := r9; subst e9)))

local macro_rules | `(tactic| walk_at "call ref") => `(tactic| (k_here; (try dsimp only); (with_reducible show wpAny _ _ (call (Value.ref 45) _ _) _ _ _); k_dflt (refine' hls_k _ _ _ _ _ _ _ _ _ _ _ _ _ _ _ _ _ _ _ _ _ _ _ _ _ _ _ _ ?k1 ?k2 ?k3 ?k4 ?k5 ?kK ?kp ?kd ?ku ?_; walk_at "U9 all"; (case kp => exact LightOK.sa (by assumption)); k_whole; intro v9 h9 tk9 F9 r9; obtain ⟨t9, ta9, tb9, tc9, e9, N9, ap9⟩ := r9; subst e9)))

local macro_rules | `(tactic| walk_at "call ref") => `(tactic| (k_here; (try dsimp only); (with_reducible show wpAny _ _ (call (Value.ref 142) _ _) _ _ _); k_dflt (refine' getall_c _ _ _ _ _ _ _ _ _ _ _ _ _ _ _ _ _ _ _ _ _ _ _ _ _ _ _ _ _ _ _ _ _ ?k1 ?k2 ?k3 ?k4 ?k5 ?kK ?kp ?kd ?ku ?_; walk_at "U9 all"; (case kp => exact ⟨by assumption, by assumption, items_small (by assumption) (by assumption), names_short _, (by rw [len_nameOf]; decide), fine_low _ (by assumption)⟩); k_whole; intro v9 h9 tk9 F9 r9; obtain ⟨D9, vs9, e9, N9, ap9, st9⟩ := r9; subst e9; rw [got_eq (by assumption) _ (by assumption)] at st9; (have G9 := Got.mk st9); (have z9 := G9.small (by assumption)))))

local macro_rules | `(tactic| walk_at "call ref") => `(tactic| (k_here; (try dsimp only); (with_reducible show wpAny _ _ (call (Value.ref 221) _ _) _ _ _); k_dflt (refine' purse_c _ _ _ _ _ _ _ _ _ _ _ _ _ _ _ _ _ _ _ _ _ _ _ _ _ ?k1 ?k2 ?k3 ?k4 ?k5 ?kK ?kp ?kd ?ku ?_; walk_at "U9 all"; (case kp => assumption); k_whole; intro v9 h9 tk9 F9 r9; obtain ⟨⟨t9, e9⟩, N9⟩ := r9; subst e9)))

local macro_rules | `(tactic| walk_at "call ref") => `(tactic| (k_here; (try dsimp only); (with_reducible show wpAny _ _ (call (Value.ref _) [Value.int _ _, Value.bool _] _) _ _ _); k_dflt (refine' name_c _ _ _ _ _ _ _ _ _ _ _ _ _ _ _ _ _ _ _ _ _ _ _ _ _ ?k1 ?k2 ?k3 ?k4 ?k5 ?kK ?kp ?kd ?ku ?_; walk_at "U9 all"; (case kp => first | assumption | omega); k_whole; intro v9 h9 tk9 F9 r9; obtain ⟨⟨t9, e9⟩, N9⟩ := r9; subst e9)))

local macro_rules | `(tactic| walk_at "call ref") => `(tactic| (k_here; (try dsimp only); (with_reducible show wpAny _ _ (call (Value.ref 203) _ _) _ _ _); k_dflt (refine' init0_c _ _ _ _ _ _ _ _ _ _ _ _ _ _ _ _ _ _ _ _ _ _ ?k1 ?k2 ?k3 ?k4 ?k5 ?kK ?kp ?kd ?ku ?_; walk_at "U9 all"; (case kp => trivial); k_whole; intro v9 h9 tk9 F9 r9; (rename HdrIn _ _ _ _ _ _ _ _ _ => H7); (rename BookIn _ _ _ => B7); obtain ⟨x9, d9, l9, hsh9, tkk9, nd9, nl9, nw9, e9, N9, H9, S9, D9⟩ := r9; subst e9; (obtain ⟨H8, a8, b8, c8⟩ := hdr_on H7 S9); (have B8 := book_on B7 S9); (have Z9 := NewOn.mk S9 D9))))

local macro_rules | `(tactic| walk_at "call ref") => `(tactic| (k_here; (try dsimp only); (with_reducible show wpAny _ _ (call (Value.ref 203) [Value.ref _] _) _ _ _); k_dflt (refine' init1_c _ _ _ _ _ _ _ _ _ _ _ _ _ _ _ _ _ _ _ _ _ _ _ _ _ _ _ _ _ _ ?k1 ?k2 ?k3 ?k4 ?k5 ?kK ?kp ?kd ?ku ?_; walk_at "U9 all"; (case kp => (refine pre1 (fine_nameOf _ _ ?_) fine_one; omega)); k_whole; intro v9 h9 tk9 F9 r9; obtain ⟨x9, d9, hsh9, tkk9, nd9, nw9, e9, N9, H9, S9⟩ := r9; subst e9)))

local macro_rules | `(tactic| walk_at "call ref") => `(tactic| (k_here; (try dsimp only); (with_reducible show wpAny _ _ (call (Value.ref 155) _ _) _ _ _); k_dflt (refine' keys_c _ _ _ _ _ _ _ _ _ _ _ _ _ _ _ _ _ _ _ _ _ _ _ _ _ _ _ _ _ _ _ ?k1 ?k2 ?k3 ?k4 ?k5 ?kK ?kp ?kd ?ku ?_; walk_at "U9 all"; (case kp => exact ⟨by assumption, by assumption, items_small (by assumption) (by assumption)⟩); k_whole; intro v9 h9 tk9 F9 r9; obtain ⟨D9, vs9, e9, N9, ap9, st9⟩ := r9; subst e9; have z9 := strs_small st9 (by assumption))))

/-- what stands before a turn of the plays -/
def JB (m0 : List (Str × Value)) (plays : Int) (news : List (Addr × Obj)) (T : Nat → List Ent) (K : Nat) (k : Nat) (m : Str → Option Value) (nw : List (Addr × Obj)) : Prop :=
  k ≤ K ∧ (∀ q ∈ m0, m q.1 = some q.2) ∧ (∃ tl, m (Str.ofString "left") = some (.int (plays - k) tl)) ∧ (∀ p ∈ news, p ∈ nw) ∧
    ∃ x d hl hsh tk nd nl items, m (Str.ofString "book") = some (.ref x) ∧ HdrIn nw x d hl hsh tk nd nl items ∧ BookIn nw items (entsOf (T k))
theorem book_c (start plays : Int) (ts tp th : Tok) (hue : UInt64) (rul od : Addr) (its : Array Value) (nl nt : Nat) (ns : List Int) (o0 o1 : Int) (t0 t1 : Tok) (T : Nat → List Ent) (z : Nat → Int) (K : Nat) (news : List (Addr × Obj)) :
  ∀ (dp un : Nat) (gd : Option (List Code)) (cn : Str) (cs : Scope) (a : Addr) (ccd : Value) (cl : List (Str × Addr)) (outer : List Env) (A₀ : Around) (base h₀ : Heap) (L : Addr) (m : Str → Option Value) (s : Shared) (Q E : Value → Shared → Prop),
    Below A₀ base outer h₀ → Fr h₀ L s.heap m → (hd.heap_39 w.params).In h₀ → News h₀ L s.heap news → Top hd.view_39 LO mean mg mb h₀ → cs.kind = .function →
      ((rul, W.listOf its nl) ∈ news ∧ (od, tupOf (.int o0 t0) (.int o1 t1) nt) ∈ news ∧ IntsAre its.toList ns ∧ ns[0]? ≠ some 0 ∧ 0 ≤ start ∧ start ≤ 2048 ∧ 0 ≤ plays ∧ plays ≤ 4 ∧ K ≤ plays ∧
        (∀ p ∈ news, isItB p.2 = false) ∧ T 0 = [(start, true, 1)] ∧ (∀ k, k < K → (stK ns k).next ns = some (z k, stK ns (k + 1))) ∧ ((K : Int) = plays ∨ (stK ns K).next ns = none) ∧ (∀ k, k < K → T (k + 1) = turnT o0 o1 (z k) (T k)) ∧ 1 ≤ o0 ∧ o0 ≤ 5 ∧ 1 ≤ o1 ∧ o1 ≤ 5 ∧ (∀ k, k ≤ K → TOk (T k)) ∧ (∀ k, k < K → setOK (pursesT (T k)) = true) ∧ (∀ k, k < K → ∀ p ∈ pursesT (T k), LightOK hue p (z k))) → dp + 12 < recursionLimit → un + 90 < cLine →
      (∀ D o kvs h' tk' gs, gs.bare = true → Fr h₀ L h' m → News h₀ L h' ((D, o) :: news) → (∀ p ∈ news, p.1 ≠ D) → (D == sysModules) = false → o.IsDictOf (PySem.intKind PG w) kvs → ZVals kvs (crowdsZ ((o0 + o1) ^ (plays - K).toNat) (T K)) → Q (.ref D) { s with heap := h', gens := s.gens.push gs, toks := tk' }) →
      wpAny (model PG w) (ktrTop dp un gd cn cs L a ccd cl outer) (call (.ref 226) [.int start ts, .ref rul, .int plays tp, .ref od, .float hue th] []) Q E s := by
  rintro dp un gd cn cs aa ccd cl outer A₀ base h₀ L m s Q E hB hF hX hN hT hcs ⟨hl, ho, hints, hgood, hs0, hs1, hp0, hp1, hKp, hnoit, hT0, hnx, hKe, hTs, ho00, ho01, ho10, ho11, hTok, hset, hlight⟩ hdp hun hret
  have cbI : CbIn 226 := CbIn.mk
  refine wpAny_call ?_
  k_dflt cell_enter
  have mode : ModeG := .mk
  k_steps
  rename HdrIn _ _ _ _ _ _ _ _ _ => H9
  rename ∀ p ∈ _, p ∈ _ => S9
  rename News _ _ _ _ => N9
  refine' gen_c _ _ _ _ rul its nl ns 6 _ _ _ _ _ _ _ _ _ _ _ _ _ _ _ _ _ _ ?k1 ?k2 ?k3 ?k4 ?k5 ?kK ?kp ?kd ?ku ?_
  (case k1 => k_asm); (case k2 => k_asm); (case k3 => k_asm); (case k4 => k_asm); (case k5 => k_asm); (case kK => first | exact rfl | assumption); (case kd => ktr_room); (case ku => ktr_units)
  case kp => exact ⟨S9 _ (.tail _ (.tail _ hl)), hints, hgood⟩
  intro G Lg oL oG gs h6 tk6 F6 N6 hgen hbare hNsL hltL hltG hgoes
  clear mode
  rename List (Addr × Obj) => nw9
  have hgenA : ∀ p ∈ nw9, p.1 ≠ G ∧ p.1 ≠ Lg := fun p hp => ⟨Nat.ne_of_lt (Nat.lt_trans (hltL p hp) hltG), Nat.ne_of_lt (hltL p hp)⟩
  refine ⟨G, Lg, oG, oL, gs, s.gens, rul, its, nl, ns, 6, _, _, JB [(Str.ofString "odds", .ref od), (Str.ofString "hue", .float hue th)] plays news T K, JB [(Str.ofString "odds", .ref od)] plays news T K K, rfl,
    { handled := rfl, room := ?grm, gensEq := rfl, gen := hgen, bare := hbare, fr := F6, news := N6, memG := .head _, memL := .tail _ (.head _), neGL := Nat.ne_of_gt hltG, nsL := hNsL, goes := hgoes, nolimit := ?gnl, rulIn := ?gri, bound := ?gbd, first := ?gfi, turn := ?gtu, stop := ?gst, done := ?gdn }⟩
  case grm => ktr_room
  case gnl =>
    rename Top _ _ _ _ _ _ => T9
    exact fun h hk => T9.nolimit.keeps hk
  case gri => exact fun k m nw hJ => hJ.2.2.2.1 _ hl
  case gbd => exact fun k m nw hJ => by have := hJ.1; omega
  case gfi =>
    have ap : ∀ p ∈ nw9, ∀ q ∈ [(G, oG), (Lg, oL)], q.1 ≠ p.1 := fun p hp q hq => by
      simp only [List.mem_cons, List.not_mem_nil, or_false] at hq
      rcases hq with rfl | rfl
      · exact fun e => (hgenA p hp).1 e.symm
      · exact fun e => (hgenA p hp).2 e.symm
    have hk : ∀ p ∈ nw9, isItB p.2 = false → p ∈ keepG [(G, oG), (Lg, oL)] ((G, oG) :: (Lg, oL) :: nw9) := fun p hp hi => mem_keepG (.tail _ (.tail _ hp)) hi (ap p hp)
    refine ⟨Nat.zero_le _, ?_, ⟨tp, by rw [show (plays - ((0 : Nat) : Int)) = plays by omega]; rfl⟩, fun p hp => hk p (S9 _ (.tail _ (.tail _ hp))) (hnoit p hp), _, _, _, _, _, _, _, _, by rfl, H9.mono hk, ?_⟩
    · intro q hq
      simp only [List.mem_cons, List.not_mem_nil, or_false] at hq
      rcases hq with rfl | rfl <;> rfl
    · rw [hT0]
      exact .cons (hk _ (S9 _ (.tail _ (.head _))) rfl) .nil
  case gst =>
    rintro k m nw hJ hnone
    have hkK : k = K := by
      rcases Nat.lt_or_eq_of_le hJ.1 with h | h
      · rw [hnx k h] at hnone; cases hnone
      · exact h
    subst hkK
    exact ⟨hJ.1, fun q hq => hJ.2.1 q (by simp only [List.mem_cons, List.not_mem_nil, or_false] at hq ⊢; exact .inl hq), hJ.2.2⟩
  case gdn =>
    rintro gs' h tk m' nw hb' F30 N30 ⟨hkK, hm0, ⟨tl, hml⟩, hsub, x, d, hl2, hsh, tkk, nd, nl2, items, hmb, hH, hB2⟩
    have hmo := hm0 _ (.head _)
    dsimp only at hmo
    rw [fr_know hml, fr_know hmb, fr_know hmo] at F30
    dsimp only at F30
    have hTk := hTok K (Nat.le_refl _)
    have hod := hsub _ ho
    have a8 := (by obtain ⟨a, b, c⟩ := hH; exact ⟨a, b, c⟩ : (x, instObj 203 d) ∈ nw ∧ (d, dictOf [⟨hsh, .str (Str.ofString "_headers") tkk, .ref hl2⟩] nd) ∈ nw ∧ (hl2, W.listOf items.toArray nl2) ∈ nw)
    obtain ⟨a8, b8, c8⟩ := a8
    clear hnx hKe hTs hset hlight hgoes hgen hNsL F6 N6 hml hmb hmo
    dsimp only
    k_steps
    rename News _ _ _ ((_, W.listOf _ _) :: _ :: nw) => N31
    rename ∀ p ∈ nw, p.1 < _ => lD
    rename Fr _ _ _ _ => F31
    rename ∀ p ∈ _ :: nw, p.1 ≠ _ => nD9
    refine' ⟨_, _, _, _, _, JD w od _ (plays - K) ((o0 + o1) ^ (plays - K).toNat) (T K) nw, rfl, rfl, .head _, F31, N31, ⟨rfl, ⟨_, rfl⟩, rfl, fun p hp => .tail _ (.tail _ hp), _, [], .tail _ (.head _), by assumption, .nil⟩, ?turn, ?all, ?fin⟩
    case all =>
      intro i v e
      obtain ⟨q, t, ta, tb, n, rfl, _⟩ := ent_get hB2 hTk (i := i) (v := v) (by simpa using e)
      exact ⟨t, rfl⟩
    case fin =>
      rintro m₁ nw₁ h6 tk6 ⟨ho1, ⟨tl1, hl1⟩, hc1, hb1, o, kvs, hDo, hDd, hDz⟩ F6 N6
      rw [fr_know hc1] at F6
      clear F31 N31 hc1 ho1 hl1
      k_steps
      rename News h₀ L _ nw₁ => N7
      have hln := hB2.length
      rw [entsOf, List.length_map] at hln
      rw [List.take_of_length_le (by rw [List.size_toArray, hln]; exact Nat.le_refl _)] at hDz
      refine hret _ o kvs _ _ gs' hb' (by assumption) (news_mono N7 fun p hp => ?_) (fun p hp => Nat.ne_of_lt (lD p (hsub p hp))) (by assumption) hDd hDz
      rcases List.mem_cons.mp hp with rfl | hp
      · exact hDo
      · exact hb1 p (hsub p hp)
    case turn =>
      rintro i v m₁ nw₁ hv ⟨ho1, ⟨tl1, hl1⟩, hc1, hb1, o, kvs, hDo, hDd, hDz⟩
      obtain ⟨q, t, ta, tb, n, rfl, hq, hm, hq1, hq2, hq3⟩ := ent_get hB2 hTk (i := i) (v := v) (by simpa using hv)
      refine ⟨t, _, _, n, rfl, hb1 _ hm, ?_⟩
      intro I oI h6 tk6 own hi F6 N6 hI hnI hfp
      rw [fr_know ho1, fr_know hl1, fr_know hc1] at F6
      dsimp only at F6
      have hod6 := List.mem_append_right own (hb1 _ hod)
      have hDo6 := List.mem_append_right own hDo
      have hzl : (crowdsZ ((o0 + o1) ^ (plays - K).toNat) ((T K).take i)).length ≤ 64 := by
        have a := crowdsZ_len ((o0 + o1) ^ (plays - K).toNat) ((T K).take i)
        have b := hTk.len
        rw [List.length_take] at a
        have c : min i (T K).length ≤ (T K).length := Nat.min_le_right _ _
        omega
      have hpw := pow_b (x := o0 + o1) (odds_one ho00 ho10) (Int.add_le_add ho01 ho11) (plays - K).toNat
      have hpw2 : (10 : Int) ^ (plays - K).toNat ≤ 10000 := ten_pow (by omega)
      obtain ⟨hpw0, hpw1⟩ := hpw
      have hq4 : q.2.2 < 10 ^ 10 := by omega
      clear F31 N31 ho1 hl1 hc1 hv
      dsimp only
      k_steps
      rename ZVals _ (putZ _ _ _) => hz9
      rename News _ _ _ (upd _ _ _) => N9
      obtain ⟨nw2, N2, n2, m2, k2⟩ := upd_end N9 hDo (fun p hp => by
        rcases hfp p hp with e | e
        · rw [e]; exact fun e => hnI _ hDo e.symm
        · rw [e]; exact fun e => nD9 _ (.head _) e.symm) hnI
      exact TurnEnd.mk (by assumption) N2 n2 ⟨by rfl, ⟨_, by rfl⟩, by rfl, fun p hp => k2 p (hb1 p hp) (Nat.ne_of_lt (lD p hp)), _, _, m2, by assumption, by rw [crowdsZ_snoc hq]; exact hz9⟩
  case gtu =>
    rintro k zk tz m₁ nw own gs' h tk hJ hzk hb' F7 N7 hap7 hit7
    obtain ⟨hkK, hm0, ⟨tl, hml⟩, hsub, x, d, hl2, hsh, tkk, nd, nl2, items, hmb, hH, hB2⟩ := hJ
    have hmo := hm0 _ (.head _)
    have hmh := hm0 _ (.tail _ (.head _))
    dsimp only at hmo hmh
    rw [fr_know hml, fr_know hmb, fr_know hmo, fr_know hmh] at F7
    dsimp only at F7
    have mode : ModeL := .mk
    have hTk := hTok k hkK
    have hH1 := hH
    have hB1 := hB2
    clear F6 hret hmo hmh hml hmb N6 hgoes hgen hNsL
    k_steps
    · rename Fr _ _ _ _ => F8
      rename plays - _ = 0 => e8
      obtain rfl : k = K := by omega
      refine ⟨h, _, _, own ++ nw, rfl, F8, N7, Nat.le_refl _, fun q hq => ?_, ⟨_, by rfl⟩, fun p hp => List.mem_append_right _ (hsub p hp), x, d, hl2, hsh, tkk, nd, nl2, items, by rfl, hH.mono fun p hp _ => List.mem_append_right _ hp, hB2.mono fun _ _ _ _ hp => List.mem_append_right _ hp⟩
      simp only [List.mem_cons, List.not_mem_nil, or_false] at hq
      subst hq
      rfl
    rename StrsAre _ _ => st9
    rename List Value => vs9
    rename News _ _ _ ((_, lst _) :: _) => N10
    generalize hnc : ((_, lst _) :: _ : List (Addr × Obj)) = nwc at N10
    refine rest_ind vs9.length (fun i ys nw => nw = nwc ∧ IntsAre ys ((pursesT (T k)).take i)) ?_ ?_ _ 0 [] nwc (by simp) ⟨rfl, .nil⟩
    · rintro i ys nw hi ⟨rfl, hys⟩ v I oI C oC D m₂ h5 tk5 E5 hv hC hx F5 N5 off5 ne5
      obtain ⟨p, g, t, rfl, hp, hp0⟩ := name_get st9 hTk (i := i) (v := v) (by simpa using hv)
      k_steps
      refine LCg.CompEnd.intro (by assumption) (by assumption) _ (fun _ h => h) off5 (.inr ⟨_, by rw [← hnc]; exact .head _, rfl, _, rfl⟩) ⟨rfl, ?_⟩
      rw [List.take_add_one, hp]
      exact intsAre_snoc hys _ _
    rintro ys nwq ⟨rfl, hys⟩
    rw [List.take_of_length_le (by rw [pursesT, List.length_map, st9.length, entsOf, List.length_map, List.length_map]; exact Nat.le_refl _)] at hys
    have hkl : k < K := by
      rcases Nat.lt_or_eq_of_le hkK with e | e
      · exact e
      · rename plays - _ ≠ 0 => e8
        rcases hKe with e2 | e2
        · omega
        · rw [← e, hzk] at e2; cases e2
    have hsk := hset k hkl
    have hzz : zk = z k := by rw [hnx k hkl] at hzk; exact (Prod.mk.inj (Option.some.inj hzk)).1.symm
    dsimp only
    k_steps
    rename News _ _ _ _ => N11
    rename IntsAre _ (sset _) => hI11
    rename AllBelow _ _ => Y11
    generalize hnd : ((_, W.listOf (List.toArray _) _) :: _ : List (Addr × Obj)) = nwd at N11
    rename HdrIn _ _ _ _ _ _ _ _ [] => H12
    rename NewOn _ _ _ _ _ => Z12
    have hDl := Y11.lt _ (.tail _ (.tail _ (by rw [← hnc]; exact .tail _ (hdr_list H12))))
    rename Fr _ _ _ _ => F11
    refine' ⟨_, _, _, _, nwd, JL [(Str.ofString "size", .int zk tz), (Str.ofString "book", .ref x), (Str.ofString "odds", .ref od), (Str.ofString "hue", .float hue th)] (plays - k - 1)
      (own ++ nw) _ _ _ _ _ _ (fun i => ((sset (pursesT (T k))).take i).flatMap (playT o0 o1 zk (T k))), rfl, rfl, ?mem, F11, N11, jl_first Z12 H12 (sub4 hnd hnc) rfl ?j0 rfl rfl, ?turn, ?done⟩
    case j0 =>
      intro q hq
      simp only [List.mem_cons, List.not_mem_nil, or_false] at hq
      rcases hq with rfl | rfl | rfl | rfl <;> rfl
    case mem => rw [← hnd]; exact .head _
    case done =>
      rintro m' nw' h20 tk20 ⟨hm0, hlater, ⟨tlf, hleft⟩, nl3, items3, S3⟩ F20 N20
      have e3 := hm0 _ (.tail _ (.tail _ (.head _)))
      have e4 := hm0 _ (.tail _ (.tail _ (.tail _ (.head _))))
      dsimp only at e3 e4
      rw [fr_know hlater, fr_know hleft, fr_know e3, fr_know e4] at F20
      dsimp only at F20
      clear F7 N7
      dsimp only
      k_steps
      have kk : ∀ p ∈ keepG (own ++ nw) nw', p ∈ keepG own nw' := fun p hp => by
        obtain ⟨a, b, c⟩ := of_mem_keepG hp
        exact mem_keepG a b fun q hq => c q (List.mem_append_left _ hq)
      have H21 := S3.hdr.mono fun p hp _ => kk p hp
      have B21 := S3.book.mono fun _ _ _ _ hp => kk _ hp
      have hlen := IntsAre.length hI11
      dsimp only at B21
      rw [List.take_of_length_le (by rw [List.size_toArray]; omega), show (sset (pursesT (T k))).flatMap (playT o0 o1 zk (T k)) = T (k + 1) by rw [hTs k hkl, ← hzz]; rfl] at B21
      refine ⟨_, _, _, nw', rfl, by assumption, by assumption, fun q hq => S3.sub q (List.mem_append_left _ hq), hkl, ?_, ⟨_, by rw [show plays - ((k + 1 : Nat) : Int) = plays - k - 1 by omega]; rfl⟩, fun p hp => mem_keepG (S3.sub _ (List.mem_append_right _ (hsub p hp))) (hit7 p (hsub p hp)) (hap7 p (hsub p hp)), _, _, _, _, _, _, _, _, by rfl, H21, B21⟩
      intro q hq
      simp only [List.mem_cons, List.not_mem_nil, or_false] at hq
      rcases hq with rfl | rfl <;> rfl
    case turn =>
      rintro I oI i v m₂ m₃ nw₁ h8 tk8 own2 hi hv ⟨hm0, hlater, ⟨tlf, hleft⟩, nl3, items3, S3⟩ rfl F8 N8 hI hnI hfp
      obtain ⟨p, tpp, rfl, hp⟩ := intsAre_get' hI11 hv
      have hpr := purse_rng hTk (sset_mem (List.mem_of_getElem? hp))
      have e1 := hm0 _ (.head _)
      have e2 := hm0 _ (.tail _ (.head _))
      have e3 := hm0 _ (.tail _ (.tail _ (.head _)))
      have e4 := hm0 _ (.tail _ (.tail _ (.tail _ (.head _))))
      dsimp only at e1 e2 e3 e4
      rw [fr_know hlater, fr_know hleft, fr_know e1, fr_know e2, fr_know e3, fr_know e4] at F8
      dsimp only at F8
      have hbase := S3.sub
      have hod : (od, tupOf (.int o0 t0) (.int o1 t1) nt) ∈ own2 ++ nw₁ := List.mem_append_right _ (hbase _ (List.mem_append_right _ (hsub _ ho)))
      have hH8 : HdrIn (own2 ++ nw₁) x d hl2 hsh tkk nd nl2 items := hH.mono fun p hp _ => List.mem_append_right _ (hbase _ (List.mem_append_right _ hp))
      have hB8 : BookIn (own2 ++ nw₁) items (entsOf (T k)) := hB2.mono fun _ _ _ _ hp => List.mem_append_right _ (hbase _ (List.mem_append_right _ hp))
      have S4 := S3.start hI hnI
      obtain ⟨H8, a9, b9, c9⟩ := S4.on
      have hsz3 := S3.size hTk
      have hIl := hnI _ (hdr_list S3.on.1)
      have hapl : ∀ p ∈ (I, oI) :: (own ++ nw), p.1 ≠ _ := fun p hp => by
        rcases List.mem_cons.mp hp with rfl | hp
        · exact fun e => hIl e.symm
        · exact (Z12.apart p hp).1
      have hown : ∀ q ∈ own2, q.1 ≠ _ := fun q hq => by
        rcases hfp q hq with e | e
        · rw [e]; exact fun e => hIl e.symm
        · rw [e]; exact Nat.ne_of_gt hDl
      clear e1 e2 e3 e4 hlater hleft hm0 F7 N7 Z12 H12 hI11 hnd hnc
      have a8 := (by obtain ⟨a, b, c⟩ := hH8; exact ⟨a, b, c⟩ : (x, instObj 203 d) ∈ own2 ++ nw₁ ∧ (d, dictOf [⟨hsh, .str (Str.ofString "_headers") tkk, .ref hl2⟩] nd) ∈ own2 ++ nw₁ ∧ (hl2, W.listOf items.toArray nl2) ∈ own2 ++ nw₁)
      obtain ⟨a8, b8, c8⟩ := a8
      k_steps
      rename Got _ _ _ => G13
      rename List Value => vs14
      rename News _ _ _ ((_, lst _) :: _) => N14
      generalize hne : ((_, lst _) :: _ : List (Addr × Obj)) = nwe at N14
      refine rest_ind vs14.length (fun i ys nw => nw = nwe ∧ IntsAre ys ((((T k).filter fun e => e.1 == p).map (·.2.2)).take i)) ?_ ?_ _ 0 [] nwe (by simp) ⟨rfl, .nil⟩
      · rintro i ys nw hi ⟨rfl, hys⟩ v I oI C oC D m₂ h5 tk5 E5 hv hC hx F5 N5 off5 ne5
        obtain ⟨c, t, rfl, hc, hc0, hc1⟩ := G13.get hTk (i := i) (v := v) (by simpa using hv)
        k_steps
        refine LCg.CompEnd.intro (by assumption) (by assumption) _ (fun _ h => h) off5 (.inr ⟨_, by rw [← hne]; exact .head _, rfl, _, rfl⟩) ⟨rfl, ?_⟩
        rw [List.take_add_one, hc]
        exact intsAre_snoc hys _ _
      rintro ys nwr ⟨rfl, hys⟩
      rw [List.take_of_length_le (by simp only [G13.are.length, List.length_map]; exact Nat.le_refl _)] at hys
      subst hne
      have hL : LightOK hue p zk := hzz ▸ hlight k hkl p (sset_mem (List.mem_of_getElem? hp))
      have hzne := hL.z0
      have hcb := crowd_bound hTk p
      obtain ⟨hcb0, hcb1⟩ := hcb
      obtain ⟨hpa0, hpa1⟩ := prod_b hcb0 hcb1 ho00 ho01
      obtain ⟨hpb0, hpb1⟩ := prod_b hcb0 hcb1 ho10 ho11
      have hhr := hL.hr
      have hlr := hL.lr
      dsimp only
      k_steps
      rename News _ _ _ ((_, tup3 _ _ _) :: _) => N15
      generalize hle : ((_, tup3 _ _ _) :: _ : List (Addr × Obj)) = led1 at N15
      have hsub1 : ∀ p ∈ own2 ++ nw₁, p ∈ led1 := fun p hp => by rw [← hle]; exact .tail _ (.tail _ (.tail _ hp))
      have S15 := S4.mono (led' := led1) hsub1
      have H15 := S15.on.1
      have hsz15 := size_of (items := items3) (by omega)
      unfold Hold
      refine' add_c _ _ _ _ _ _ _ _ _ _ _ _ _ _ _ _ _ _ _ _ _ _ _ _ _ _ _ _ _ _ _ _ _ _ ?k1 ?k2 ?k3 ?k4 ?k5 ?kK ?kp ?kd ?ku ?_; (case k1 => k_asm); (case k2 => k_asm); (case k3 => k_asm); (case k4 => k_asm); (case k5 => k_asm); (case kK => first | exact rfl | assumption); (case kd => ktr_room); (case ku => ktr_units)
      case kp => exact ⟨by assumption, hsz15, fine_nameOf _ _ hhr, fine_decS hpa0, len_decS hpa0 (by omega)⟩
      intro v16 h16 tk16 F16 r16
      obtain ⟨rfl, t16, u16, n16, N16, ap16⟩ := r16
      obtain ⟨led2, keep2, S16, N16⟩ := S15.added N15 hapl N16 ap16
      obtain ⟨H16, a16, b16, c16⟩ := S16.on
      have hod2 : (od, tupOf (.int o0 t0) (.int o1 t1) nt) ∈ led2 := keep2 _ (hsub1 _ hod) (hapl _ (.tail _ (List.mem_append_right _ (hsub _ ho))))
      have ht2 := keep2 _ (by rw [← hle]; exact .head _) (news_ne N15 (by rw [← hle]; exact .head _) (hdr_list S15.on.1) (by intro e; injection e with e; exact absurd e (by decide)))
      have hown2 : ∀ q ∈ own2, q ∈ led2 := fun q hq => keep2 q (hsub1 q (List.mem_append_left _ hq)) (hown q hq)
      have hsz16 := size_of (items := items3 ++ [Value.ref t16]) (by rw [List.length_append, List.length_singleton]; omega)
      clear keep2 hod
      dsimp only
      k_steps
      unfold Hold
      refine' add_c _ _ _ _ _ _ _ _ _ _ _ _ _ _ _ _ _ _ _ _ _ _ _ _ _ _ _ _ _ _ _ _ _ _ ?k1 ?k2 ?k3 ?k4 ?k5 ?kK ?kp ?kd ?ku ?_; (case k1 => k_asm); (case k2 => k_asm); (case k3 => k_asm); (case k4 => k_asm); (case k5 => k_asm); (case kK => first | exact rfl | assumption); (case kd => ktr_room); (case ku => ktr_units)
      case kp => exact ⟨by assumption, hsz16, fine_nameOf _ _ hlr, fine_decS hpb0, len_decS hpb0 (by omega)⟩
      intro v18 h18 tk18 F18 r18
      obtain ⟨rfl, t18, u18, n18, N18, ap18⟩ := r18
      obtain ⟨led4, keep4, S18, N18⟩ := S16.added (by assumption) hapl N18 ap18
      dsimp only
      k_steps
      have S19 := S18.finish fun p hp => hnI p (S3.sub p hp)
      dsimp only at S19
      rw [← ents_snoc hp] at S19
      refine TurnEnd.mk (nw' := offI I led4) (by assumption) ?_ (fun p hp => (of_mem_offI hp).2) ⟨?_, by rfl, ⟨_, by rfl⟩, _, _, S19⟩
      · intro p hp
        rcases List.mem_append.mp hp with hp | hp
        · exact N18 _ (keep4 p (hown2 p hp) (hown p hp))
        · exact N18 _ (of_mem_offI hp).1
      · intro q hq
        simp only [List.mem_cons, List.not_mem_nil, or_false] at hq
        rcases hq with rfl | rfl | rfl | rfl <;> rfl
end
end Mine

end
section
open PySem PySem.W PyProof.Rows PySem.Spec PySem.Calls PyProof.Rows.LCg PyProof.Rows.LCt PyProof.Rows.LCp
set_option Elab.async false
set_option maxRecDepth 100000
set_option maxHeartbeats 8000000
namespace Mine
section
variable {prog : Program} {w : World} {A : Around} {E : Value → Shared → Prop} {s : Shared} {env : Env} {h₀ : Heap} {Q : Flow → Shared → Prop} {body : List Stmt}
/-- a for over range(n) -/
def RangeLoop (prog : Program) (w : World) (A : Around) (h₀ : Heap) (env : Env) (x : Str) (body : List Stmt) (Q : Flow → Shared → Prop) (E : Value → Shared → Prop) (xv : Value) (s₁ : Shared) : Prop :=
  ∃ (r : Addr) (n : Nat) (b : Int) (t u v : Tok) (m : Str → Option Value) (nw : List (Addr × Obj)) (J : Nat → (Str → Option Value) → List (Addr × Obj) → Prop),
    xv = .ref r ∧ A.handled = none ∧ IsRange s₁.heap r 0 b 1 t u v ∧ b = (n : Int) ∧ n ≤ 100000 ∧ Fr h₀ env.locals s₁.heap m ∧ News h₀ env.locals s₁.heap nw ∧ J 0 m nw ∧
    (∀ I (i : Nat) t m₁ nw₁ h tk own, i < n → J i m₁ nw₁ → Fr h₀ env.locals h (fun y => if y = x then some (.int i t) else m₁ y) → News h₀ env.locals h (own ++ nw₁) → (∀ p ∈ nw₁, p.1 ≠ I) → (∀ q ∈ own, q.1 = I) →
      wpAny (model prog w) A (execs body env) (TurnEnd h₀ env.locals I own (J (i + 1)) { s₁ with heap := h, toks := tk } Q) E { s₁ with heap := h, toks := tk }) ∧
    (∀ m' nw' h' tk, J n m' nw' → Fr h₀ env.locals h' m' → News h₀ env.locals h' nw' → Q .next { s₁ with heap := h', toks := tk })
theorem range_small {n : Nat} (h : n ≤ 100000) : Builtin.Range.small 0 (n : Int) 1 = true ∧ Builtin.Range.rangeSize 0 (n : Int) 1 = (n : Int) := by
  exact ⟨small_one (by omega) (by omega) (by omega) (by omega), by rw [rangeSize_one]; split <;> omega⟩
theorem For_R {x : Str} {px pos : Pos} {iter : PySem.Expr} {m₀ : Str → Option Value} (h₀ : Heap) (_F₀ : Fr h₀ env.locals s.heap m₀) (hx : env.kindOf x = some .local)
    (hp : (env.scope.kind == .class || (env.scope.kind == .module && env.locals != env.globals)) = false)
    (h : wpAny (model prog w) A (eval iter env) (RangeLoop prog w A h₀ env x body Q E) E s)
    (hs : ∀ x, foldedSetIterable iter env x = pure x)
    (hE : PassesOwn (model prog w) A env E) :
    wpAny (model prog w) A (exec (.For (.Name x px) iter body [] pos) env) Q E s := by
  refine For_invV h₀ hx hp (wpAny_mono h (fun xv s₁ h₁ => ?_) fun _ _ e => e) hs hE
  obtain ⟨r, n, b, t, u, v, m, nw, J, rfl, hh, hr, rfl, hn, F, N, hj, turn, done⟩ := h₁
  have hsm := range_small hn
  refine wpAny_pyIter_range hr hsm.1 ?_
  have WW := (Walks.range (prog := prog) (w := w) hh s₁.heap.objs.size 0 1 n).bound
  refine ⟨_, _, _, n, _, _, m, nw, J, rfl, WW, ?_, ?_, ?_, (by show IsRangeIter _ _ _ _ _; rw [hsm.2]; simpa using Heap.get?_push_size _ rfl), F.push _, (fun p hp => ⟨Heap.get?_push_of_some _ (N p hp).1, (N p hp).2⟩), hj, ?_, ?_⟩
  · intro hm
    exact absurd F.ns.lt ((List.mem_singleton.mp hm) ▸ Nat.lt_irrefl _)
  · intro b hb
    rw [List.mem_singleton.mp hb]
    exact next_is_new F
  · intro p hp hI
    exact absurd (Heap.lt_size (N p hp).1) ((List.mem_singleton.mp hI) ▸ Nat.lt_irrefl _)
  · rintro i v m₁ news₁ s₁' own ⟨hh', tk', rfl⟩ hin hP hJ hoff hown hget hfp st F₁ N₁
    obtain ⟨_, t', rfl⟩ := hP
    have hnI : ∀ p ∈ news₁, p.1 ≠ s₁.heap.objs.size := fun p hp e => hoff p hp (by rw [e]; exact .head _)
    rw [show (0 : Int) + (i : Nat) * 1 = (i : Int) by omega] at F₁
    refine wpAny_mono (turn _ i t' m₁ news₁ hh' tk' own hin hJ F₁ N₁ hnI (fun q hq => by have z := hown q hq; simp only [List.mem_cons, List.not_mem_nil, or_false] at z; exact z)) (fun f s₂ p => ?_) fun _ _ e => e
    have fin : (∃ h' tk m' nw', s₂ = { { s₁ with heap := hh', toks := tk' } with heap := h', toks := tk } ∧ Fr h₀ env.locals h' m' ∧ News h₀ env.locals h' (own ++ nw') ∧ (∀ p ∈ nw', p.1 ≠ s₁.heap.objs.size) ∧ J (i + 1) m' nw') →
        LoopStepU h₀ env.locals [s₁.heap.objs.size] own (J (i + 1)) { s₁ with heap := hh', toks := tk' } .next s₂ := by
      rintro ⟨h', tk, m', nw', e, F', N', hn, hm⟩
      exact ⟨rfl, h', tk, m', nw', e, F', N', fun p hp hI => hn p hp (List.mem_singleton.mp hI), hm⟩
    cases f with
    | ret v => exact .ret p
    | brk => exact .brk p
    | next => exact .next (fin p)
    | cont => exact .cont (fin p)
  · rintro h' tk' m' news' F' N' _ hJ
    exact done m' news' h' tk' hJ F' N'
end
end Mine

end
section
open PySem PySem.W PyProof.Rows PySem.Spec PySem.Calls PyProof.Rows.LCg PyProof.Rows.LCt PyProof.Rows.LCp PySem.Flt
set_option Elab.async false
set_option maxRecDepth 100000
set_option maxHeartbeats 8000000
namespace Mine
theorem freshConK : True := by
  w_top off
  trivial
theorem fillK : (fun (_ : OpenLaw) (_ : Params → Frag) => True) PySem.Challenge.rw_tp0024_01 hd.heap_39 := by
  k_fill
  trivial
variable (w : World) (mean : ExcName → Option Value) (mg mb : Str → Option Value)
theorem len_L {prog : Program} {w : World} {A : Around} {E : Value → Shared → Prop} {s : Shared} {h₀ : Heap} {L l : Addr} {news : List (Addr × Obj)} {its : Array Value} {n : Nat} {zs : List Int} {Q : Value → Shared → Prop} (N : News h₀ L s.heap news) (hm : (l, W.listOf its n) ∈ news)
    (hi : IntsAre its.toList zs) (hz : zs.length ≤ 16) (h : Q (.int zs.length (s.toks + 1)) { s with toks := s.toks + 1 + 1 }) : wpAny (model prog w) A (call (.builtin "len") [.ref l]) Q E s := by
  have e := IntsAre.length hi
  rw [Array.length_toList] at e
  refine len_list (items := its) ⟨_, (N _ hm).1, rfl, n, rfl⟩ (by omega) ?_
  rw [e]
  exact h
theorem item_L {prog : Program} {w : World} {A : Around} {E : Value → Shared → Prop} {s : Shared} {h₀ : Heap} {L l : Addr} {news : List (Addr × Obj)} {its : Array Value} {n j : Nat} {zs : List Int} {z : Int} {u : Tok} {value slice : PySem.Expr} {Q : Value → Shared → Prop} (N : News h₀ L s.heap news) (hm : (l, W.listOf its n) ∈ news)
    (hi : IntsAre its.toList zs) (hz : zs.length ≤ 16) (hj : zs[j]? = some z) (h : ∀ t, Q (.int z t) s)
    (hs : subscripted slice false (.ref l) (.int j u) = operate [.ref l, .int j u] (getItem (.ref l) (.int j u)) := by with_unfolding_all rfl) (hg : ∀ r, letTemporaryGo value (.ref l) r = pure () := by intro _; with_unfolding_all rfl) :
    wpAny (model prog w) A (subscriptTail value slice (.ref l) (.int j u)) Q E s := by
  have e := IntsAre.length hi
  rw [Array.length_toList] at e
  have hlt := (List.getElem?_eq_some_iff.mp hj).1
  obtain ⟨v, hv⟩ : ∃ v, its[j]? = some v := ⟨its[j]'(by omega), Array.getElem?_eq_getElem (by omega)⟩
  obtain ⟨z', t, rfl, hz'⟩ := intsAre_get' hi hv
  rw [hj] at hz'
  obtain rfl := Option.some.inj hz'
  exact item_list (items := its) ⟨_, (N _ hm).1, rfl, n, rfl⟩ (by omega) (by omega) (by simpa using hv) (h t) hs hg
noncomputable def hF (zs : List Int) (o0 o1 start rest : Int) (hist : Nat) : Nat → Int × Int
  | 0 => (start, rest)
  | i + 1 =>
    let a := hF zs o0 o1 start rest hist i
    let st := (if 2048 - a.1 < a.1 then 2048 - a.1 else a.1).fdiv (zs.getD i 1)
    if (((hist : Int).fdiv (2 ^ i)).fmod 2 == 1) = true then (a.1 + st, a.2 * o0) else (a.1 - st, a.2 * o1)
theorem hF_t {zs : List Int} {o0 o1 start rest z : Int} {hist i : Nat} (hz : zs[i]? = some z) (hc : ((hist : Int).fdiv (2 ^ ((i : Int).toNat))).fmod 2 = 1) : hF zs o0 o1 start rest hist (i + 1) =
    ((hF zs o0 o1 start rest hist i).1 + (if 2048 - (hF zs o0 o1 start rest hist i).1 < (hF zs o0 o1 start rest hist i).1 then 2048 - (hF zs o0 o1 start rest hist i).1 else (hF zs o0 o1 start rest hist i).1).fdiv z, (hF zs o0 o1 start rest hist i).2 * o0) := by
  rw [Int.toNat_natCast] at hc
  rw [hF]
  simp only [hc, List.getD_eq_getElem?_getD, hz, Option.getD_some, beq_self_eq_true, if_true]
theorem hF_f {zs : List Int} {o0 o1 start rest z : Int} {hist i : Nat} (hz : zs[i]? = some z) (hc : ((hist : Int).fdiv (2 ^ ((i : Int).toNat))).fmod 2 ≠ 1) : hF zs o0 o1 start rest hist (i + 1) =
    ((hF zs o0 o1 start rest hist i).1 - (if 2048 - (hF zs o0 o1 start rest hist i).1 < (hF zs o0 o1 start rest hist i).1 then 2048 - (hF zs o0 o1 start rest hist i).1 else (hF zs o0 o1 start rest hist i).1).fdiv z, (hF zs o0 o1 start rest hist i).2 * o1) := by
  rw [Int.toNat_natCast] at hc
  rw [hF]
  simp only [beq_eq_false_iff_ne.mpr hc, List.getD_eq_getElem?_getD, hz, Option.getD_some, Bool.false_eq_true, if_false]
noncomputable def histZ (zs : List Int) (o0 o1 start rest : Int) : Nat → List (Int × Int)
  | 0 => []
  | i + 1 => addZ (histZ zs o0 o1 start rest i) (hF zs o0 o1 start rest i zs.length).1 (hF zs o0 o1 start rest i zs.length).2
theorem histZ_len (zs : List Int) (o0 o1 start rest : Int) : ∀ i, (histZ zs o0 o1 start rest i).length ≤ i
  | 0 => Nat.le_refl _
  | i + 1 => Nat.le_trans (addZ_len _ _ _) (Nat.succ_le_succ (histZ_len zs o0 o1 start rest i))
theorem hF_b {zs : List Int} {o0 o1 start rest : Int} {hist : Nat} (h0 : 0 ≤ rest) (h1 : rest ≤ 10000) (a0 : 1 ≤ o0) (a1 : o0 ≤ 5) (b0 : 1 ≤ o1) (b1 : o1 ≤ 5) : ∀ i, 0 ≤ (hF zs o0 o1 start rest hist i).2 ∧ (hF zs o0 o1 start rest hist i).2 ≤ 10000 * 5 ^ i
  | 0 => ⟨h0, by simpa [hF] using h1⟩
  | i + 1 => by
    obtain ⟨a, b⟩ := hF_b (zs := zs) (start := start) (hist := hist) h0 h1 a0 a1 b0 b1 i
    unfold hF
    dsimp only
    rw [Int.pow_succ, ← Int.mul_assoc]
    split
    · exact ⟨Int.mul_nonneg a (by omega), Int.mul_le_mul b a1 (by omega) (by have : (0 : Int) ≤ 5 ^ i := Int.pow_nonneg (by decide); omega)⟩
    · exact ⟨Int.mul_nonneg a (by omega), Int.mul_le_mul b b1 (by omega) (by have : (0 : Int) ≤ 5 ^ i := Int.pow_nonneg (by decide); omega)⟩
theorem five_pow {n : Nat} (h : n ≤ 4) : (5 : Int) ^ n ≤ 625 := (show ∀ n ≤ 4, (5 : Int) ^ n ≤ 625 by decide) n h
theorem two_pow {n : Nat} (h : n ≤ 4) : 2 ^ n ≤ 16 := (show ∀ n ≤ 4, 2 ^ n ≤ 16 by decide) n h
/-- what stands before a history -/
def JH (w : World) (sl od D : Addr) (start rest : Int) (zs : List Int) (o0 o1 : Int) (news : List (Addr × Obj)) (i : Nat) (m : Str → Option Value) (nw : List (Addr × Obj)) : Prop :=
  (∃ t, m (Str.ofString "start") = some (.int start t)) ∧ (∃ t, m (Str.ofString "rest") = some (.int rest t)) ∧ m (Str.ofString "sizes") = some (.ref sl) ∧ m (Str.ofString "odds") = some (.ref od) ∧ m (Str.ofString "crowds") = some (.ref D) ∧ (∀ p ∈ news, p ∈ nw) ∧
    ∃ o kvs, (D, o) ∈ nw ∧ o.IsDictOf (PySem.intKind PG w) kvs ∧ ZVals kvs (histZ zs o0 o1 start rest i)
/-- what stands before a place of a history -/
def JI (sl od D : Addr) (start rest : Int) (zs : List Int) (o0 o1 : Int) (hist : Nat) (nwI : List (Addr × Obj)) (i : Nat) (m : Str → Option Value) (nw : List (Addr × Obj)) : Prop :=
  nw = nwI ∧ (∃ t, m (Str.ofString "start") = some (.int start t)) ∧ (∃ t, m (Str.ofString "rest") = some (.int rest t)) ∧ m (Str.ofString "sizes") = some (.ref sl) ∧ m (Str.ofString "odds") = some (.ref od) ∧ m (Str.ofString "crowds") = some (.ref D) ∧
    (∃ t, m (Str.ofString "history") = some (.int hist t)) ∧ (∃ t, m (Str.ofString "purse") = some (.int (hF zs o0 o1 start rest hist i).1 t)) ∧ (∃ t, m (Str.ofString "crowd") = some (.int (hF zs o0 o1 start rest hist i).2 t))
section
local macro_rules | `(tactic| walk_at "subscriptTail") => `(tactic| (k_here; (with_reducible show wpAny _ _ (subscriptTail _ _ (Value.ref _) (Value.int (Nat.cast _) _)) _ _ _); k_dflt (refine item_L (by k_asm) (by k_mem) (by assumption) (by assumption) (by assumption) ?_); intro t9))
local macro_rules | `(tactic| walk_at "call builtin:len") => `(tactic| (k_here; (with_reducible show wpAny _ _ (call (Value.builtin _) [Value.ref _]) _ _ _); k_dflt (refine len_L (by k_asm) (by k_mem) (by assumption) (by omega) ?_)))
local macro_rules | `(tactic| walk_at "exec For Name Call cons nil") => `(tactic| (k_here; k_dflt (refine' For_R _ ?k1 ?k2 ?k4 ?_ ?k5 ?k6; (case k1 => k_asm); (case k2 => rfl); (case k4 => rfl); (case k5 => (intro _; rfl)); (case k6 => passes_own); k_whole)))
local macro_rules | `(tactic| walk_at "getMethod ref") => `(tactic| (k_here; (with_reducible show wpAny _ _ (getMethod (Value.ref _) (Str.ofString "get") _) _ _ _); k_dflt (refine kdg_method (knd := PySem.intKind _ _) (by k_asm) (by k_mem) (by assumption) ?_)))
local macro_rules | `(tactic| walk_at "call builtin:dict.get") => `(tactic| (k_here; (with_reducible show wpAny _ _ (call (Value.builtin _) [Value.ref _, Value.int _ _, Value.int _ _]) _ _ _); k_dflt (refine get_Z (by k_asm) (by k_mem) (by assumption) (by assumption) (by assumption) ?_); intro t9))
local macro_rules | `(tactic| walk_at "setItem ref int") => `(tactic| (k_here; (with_reducible show wpAny _ _ (setItem (Value.ref _) (Value.int _ _) (Value.int _ _)) _ _ _); k_dflt (refine set_Z (by k_asm) (by k_asm) (by k_mem) (by assumption) (by assumption) (by assumption) ?_); intro h9 o9 kvs9 F9 N9 hd9 hz9))
theorem hist_c (start rest : Int) (ts tr : Tok) (sl od : Addr) (its : Array Value) (nl nt : Nat) (zs : List Int) (o0 o1 : Int) (t0 t1 : Tok) (news : List (Addr × Obj)) :
    Cl w mean mg mb 233 2 16 [.int start ts, .ref sl, .ref od, .int rest tr] [] news
      ((sl, W.listOf its nl) ∈ news ∧ (od, tupOf (.int o0 t0) (.int o1 t1) nt) ∈ news ∧ IntsAre its.toList zs ∧ zs.length ≤ 4 ∧ (∀ z ∈ zs, 1 ≤ z ∧ z ≤ 4) ∧ 0 ≤ rest ∧ rest ≤ 10000 ∧ 1 ≤ o0 ∧ o0 ≤ 5 ∧ 1 ≤ o1 ∧ o1 ≤ 5)
      (fun _ h₀ L h' v => ∃ D o kvs, v = Value.ref D ∧ News h₀ L h' ((D, o) :: news) ∧ (∀ p ∈ news, p.1 ≠ D) ∧ (D == sysModules) = false ∧ o.IsDictOf (PySem.intKind PG w) kvs ∧ ZVals kvs (histZ zs o0 o1 start rest (2 ^ zs.length))) := by
  dsimp only [Cl]
  rintro dp un gd cn cs aa ccd cl outer A₀ base h₀ L m s Q E hB hF hX hN hT hcs ⟨hl, ho, hints, hlen, hpos, hr0, hr1, ho00, ho01, ho10, ho11⟩ hdp hun hret
  have cbI : CbIn 233 := CbIn.mk
  refine wpAny_call ?_
  k_dflt cell_enter
  k_steps
  rename IsRange _ _ _ _ _ _ _ _ => R5
  rename Fr _ _ _ _ => F5
  rename News _ _ _ (_ :: news) => N5
  rename ∀ p ∈ news, p.1 < _ => lD
  refine' ⟨_, 2 ^ zs.length, _, _, _, _, _, _, JH w sl od _ start rest zs o0 o1 news, rfl, rfl, R5, ?bn, ?sm, F5, N5, ⟨⟨_, by rfl⟩, ⟨_, by rfl⟩, by rfl, by rfl, rfl, fun p hp => .tail _ hp, _, [], .head _, by assumption, .nil⟩, ?turn, ?fin⟩
  case bn => rw [Int.toNat_natCast]; norm_cast
  case sm => exact Nat.le_trans (two_pow hlen) (by decide)
  case fin =>
    rintro m' nw' h6 tk6 ⟨-, -, -, -, hcr, hb, o, kvs, hDo, hDd, hDz⟩ F6 N6
    rw [fr_know hcr] at F6
    clear F5 N5
    k_steps
    rename News h₀ L _ nw' => N7
    refine hret _ _ _ (by assumption) ⟨_, o, kvs, rfl, news_mono N7 fun p hp => ?_, fun p hp => Nat.ne_of_lt (lD p hp), by assumption, hDd, hDz⟩
    rcases List.mem_cons.mp hp with rfl | hp
    · exact hDo
    · exact hb p hp
  case turn =>
    rintro I hist th m₁ nw₁ h6 tk6 own hi ⟨⟨t1, hs1⟩, ⟨t2, hs2⟩, hs3, hs4, hs5, hb, o, kvs, hDo, hDd, hDz⟩ F6 N6 hnI hown
    rw [fr_know hs1, fr_know hs2, fr_know hs3, fr_know hs4, fr_know hs5] at F6
    dsimp only at F6
    have hl6 := List.mem_append_right own (hb _ hl)
    have ho6 := List.mem_append_right own (hb _ ho)
    have hDo6 := List.mem_append_right own hDo
    have hDl := histZ_len zs o0 o1 start rest hist
    have h16 := two_pow hlen
    clear F5 N5 hs1 hs2 hs3 hs4 hs5
    k_steps
    rename IsRange _ _ _ _ _ _ _ _ => R7
    rename Fr _ _ _ _ => F7
    rename News _ _ _ (_ :: (own ++ nw₁)) => N7
    refine' ⟨_, zs.length, _, _, _, _, _, own ++ nw₁, JI sl od _ start rest zs o0 o1 hist (own ++ nw₁), rfl, rfl, R7, rfl, by omega, F7, news_mono N7 fun p hp => .tail _ hp, ⟨rfl, ⟨_, rfl⟩, ⟨_, rfl⟩, rfl, rfl, rfl, ⟨_, rfl⟩, ⟨_, rfl⟩, ⟨_, rfl⟩⟩, ?turn2, ?fin2⟩
    case fin2 =>
      rintro m' nw' h8 tk8 ⟨rfl, ⟨t1, hs1⟩, ⟨t2, hs2⟩, hs3, hs4, hs5, ⟨t6, hs6⟩, ⟨t7, hs7⟩, ⟨t8, hs8⟩⟩ F8 N8
      rw [fr_know hs1, fr_know hs2, fr_know hs3, fr_know hs4, fr_know hs5, fr_know hs6, fr_know hs7, fr_know hs8] at F8
      dsimp only at F8
      clear F7 N7 hs1 hs2 hs3 hs4 hs5 hs6 hs7 hs8
      have hzl : (histZ zs o0 o1 start rest hist).length ≤ 64 := by omega
      dsimp only
      k_steps
      rename ZVals _ (putZ _ _ _) => hz9
      rename News _ _ _ (upd _ _ _) => N9
      obtain ⟨nw2, N2, n2, m2, k2⟩ := upd_end N9 hDo (fun p hp => by rw [hown p hp]; exact fun e => hnI _ hDo e.symm) hnI
      exact TurnEnd.mk (by assumption) N2 n2 ⟨⟨_, by rfl⟩, ⟨_, by rfl⟩, by rfl, by rfl, by rfl, fun p hp => k2 p (hb p hp) (Nat.ne_of_lt (lD p hp)), _, _, m2, by assumption, hz9⟩
    case turn2 =>
      rintro I2 i t9 m₂ nw₂ h8 tk8 own2 hi2 ⟨rfl, ⟨t1, hs1⟩, ⟨t2, hs2⟩, hs3, hs4, hs5, ⟨t6, hs6⟩, ⟨t7, hs7⟩, ⟨t8, hs8⟩⟩ F8 N8 hnI2 hown2
      rw [fr_know hs1, fr_know hs2, fr_know hs3, fr_know hs4, fr_know hs5, fr_know hs6, fr_know hs7, fr_know hs8] at F8
      dsimp only at F8
      have hl8 := List.mem_append_right own2 hl6
      have ho8 := List.mem_append_right own2 ho6
      clear F7 N7 hs1 hs2 hs3 hs4 hs5 hs6 hs7 hs8
      obtain ⟨z, hz⟩ : ∃ z, zs[i]? = some z := ⟨zs[i], List.getElem?_eq_getElem hi2⟩
      have hz1 := hpos z (List.mem_of_getElem? hz)
      obtain ⟨hz1, hz4⟩ := hz1
      have hz0 : z ≠ 0 := by omega
      have h2p : (2 : Int) ^ ((i : Int).toNat) ≠ 0 ∧ ((2 : Int) ^ ((i : Int).toNat)).natAbs < 1073741824 := by
        exact (show ∀ n < 4, (2 : Int) ^ (((n : Nat) : Int).toNat) ≠ 0 ∧ ((2 : Int) ^ (((n : Nat) : Int).toNat)).natAbs < 1073741824 by decide) i (by omega)
      obtain ⟨h2a, h2b⟩ := h2p
      obtain ⟨hb0, hb1⟩ := hF_b (zs := zs) (start := start) (hist := hist) hr0 hr1 ho00 ho01 ho10 ho11 i
      have h5 := five_pow (n := i) (by omega)
      have hzl : zs.length ≤ 16 := by omega
      dsimp only
      k_steps
      · rename _ = (1 : Int) => hc
        rename News _ _ _ (_ :: (own2 ++ _)) => N10
        exact TurnEnd.mk (by assumption) (news_mono N10 fun p hp => .tail _ hp) hnI2 ⟨rfl, ⟨_, by rfl⟩, ⟨_, by rfl⟩, by rfl, by rfl, by rfl, ⟨_, by rfl⟩, ⟨_, by rw [hF_t hz hc]; rfl⟩, ⟨_, by rw [hF_t hz hc]; rfl⟩⟩
      · rename _ ≠ (1 : Int) => hc
        rename News _ _ _ (_ :: (own2 ++ _)) => N10
        exact TurnEnd.mk (by assumption) (news_mono N10 fun p hp => .tail _ hp) hnI2 ⟨rfl, ⟨_, by rfl⟩, ⟨_, by rfl⟩, by rfl, by rfl, by rfl, ⟨_, by rfl⟩, ⟨_, by rw [hF_f hz hc]; rfl⟩, ⟨_, by rw [hF_f hz hc]; rfl⟩⟩
end
end Mine

end
section
open PySem PySem.W PyProof.Rows PySem.Spec PySem.Calls PyProof.Rows.LCg PyProof.Rows.LCt PyProof.Rows.LCp PySem.Flt
set_option Elab.async false
set_option maxRecDepth 100000
set_option maxHeartbeats 8000000
namespace Mine
theorem freshConL : True := by
  w_top off
  trivial
theorem fillL : (fun (_ : OpenLaw) (_ : Params → Frag) => True) PySem.Challenge.rw_tp0024_01 hd.heap_39 := by
  k_fill
  trivial
variable (w : World) (mean : ExcName → Option Value) (mg mb : Str → Option Value)
noncomputable def figF (start plays o0 o1 : Int) : Nat → Int × Int
  | 0 => (0, 1)
  | i + 1 =>
    let a := figF start plays o0 o1 i
    if ((start.fdiv (2 ^ (2 - (i : Int)).toNat)).fmod 2 == 1) = true then (a.1 + a.2 * o0 * (o0 + o1) ^ (plays - 1 - (i : Int)).toNat, a.2 * o1) else (a.1, a.2 * o0)
theorem figF_b {start plays o0 o1 : Int} (a0 : 1 ≤ o0) (a1 : o0 ≤ 5) (b0 : 1 ≤ o1) (b1 : o1 ≤ 5) : ∀ i, 0 ≤ (figF start plays o0 o1 i).2 ∧ (figF start plays o0 o1 i).2 ≤ 5 ^ i
  | 0 => ⟨by simp [figF], by simp [figF]⟩
  | i + 1 => by
    obtain ⟨a, b⟩ := figF_b (start := start) (plays := plays) a0 a1 b0 b1 i
    unfold figF
    dsimp only
    rw [Int.pow_succ]
    split
    · exact ⟨Int.mul_nonneg a (by omega), Int.mul_le_mul b b1 (by omega) (by have : (0 : Int) ≤ 5 ^ i := Int.pow_nonneg (by decide); omega)⟩
    · exact ⟨Int.mul_nonneg a (by omega), Int.mul_le_mul b a1 (by omega) (by have : (0 : Int) ≤ 5 ^ i := Int.pow_nonneg (by decide); omega)⟩
theorem figF_t {start plays o0 o1 : Int} {i : Nat} (hc : (start.fdiv (2 ^ (2 - (i : Int)).toNat)).fmod 2 = 1) : figF start plays o0 o1 (i + 1) =
    ((figF start plays o0 o1 i).1 + (figF start plays o0 o1 i).2 * o0 * (o0 + o1) ^ (plays - 1 - (i : Int)).toNat, (figF start plays o0 o1 i).2 * o1) := by
  rw [figF]
  simp only [hc, beq_self_eq_true, if_true]
theorem figF_f {start plays o0 o1 : Int} {i : Nat} (hc : (start.fdiv (2 ^ (2 - (i : Int)).toNat)).fmod 2 ≠ 1) : figF start plays o0 o1 (i + 1) = ((figF start plays o0 o1 i).1, (figF start plays o0 o1 i).2 * o0) := by
  rw [figF]
  simp only [beq_eq_false_iff_ne.mpr hc, Bool.false_eq_true, if_false]
/-- what stands before a binary figure -/
def JF (od : Addr) (start plays o0 o1 : Int) (news : List (Addr × Obj)) (i : Nat) (m : Str → Option Value) (nw : List (Addr × Obj)) : Prop :=
  nw = news ∧ (∃ t, m (Str.ofString "start") = some (.int start t)) ∧ (∃ t, m (Str.ofString "plays") = some (.int plays t)) ∧ m (Str.ofString "odds") = some (.ref od) ∧
    (∃ t, m (Str.ofString "total") = some (.int (figF start plays o0 o1 i).1 t)) ∧ (∃ t, m (Str.ofString "road") = some (.int (figF start plays o0 o1 i).2 t))
section
local macro_rules | `(tactic| walk_at "exec For Name Call cons nil") => `(tactic| (k_here; k_dflt (refine' For_R _ ?k1 ?k2 ?k4 ?_ ?k5 ?k6; (case k1 => k_asm); (case k2 => rfl); (case k4 => rfl); (case k5 => (intro _; rfl)); (case k6 => passes_own); k_whole)))
theorem fig_c (start plays : Int) (ts tp : Tok) (od : Addr) (nt : Nat) (o0 o1 : Int) (t0 t1 : Tok) (n : Nat) (news : List (Addr × Obj)) :
    Cl w mean mg mb 245 2 16 [.int start ts, .int plays tp, .ref od] [] news
      ((od, tupOf (.int o0 t0) (.int o1 t1) nt) ∈ news ∧ 2 ≤ plays ∧ plays ≤ 4 ∧ (n : Int) = (if 3 < plays then 3 else plays) ∧ 1 ≤ o0 ∧ o0 ≤ 5 ∧ 1 ≤ o1 ∧ o1 ≤ 5)
      (fun _ h₀ L h' v => (∃ t, v = Value.int (figF start plays o0 o1 n).1 t) ∧ News h₀ L h' news) := by
  dsimp only [Cl]
  rintro dp un gd cn cs aa ccd cl outer A₀ base h₀ L m s Q E hB hF hX hN hT hcs ⟨ho, hp0, hp1, hn, ho00, ho01, ho10, ho11⟩ hdp hun hret
  have cbI : CbIn 245 := CbIn.mk
  refine wpAny_call ?_
  k_dflt cell_enter
  k_steps
  rename IsRange _ _ _ _ _ _ _ _ => R5
  rename Fr _ _ _ _ => F5
  rename News _ _ _ _ => N5
  have hn3 : (n : Int) ≤ 3 ∧ (n : Int) ≤ plays := by split at hn <;> omega
  obtain ⟨hn3, hnp⟩ := hn3
  refine' ⟨_, n, _, _, _, _, _, news, JF od start plays o0 o1 news, rfl, rfl, R5, hn.symm, by omega, F5, news_mono N5 fun p hp => .tail _ hp, ⟨rfl, ⟨_, by rfl⟩, ⟨_, by rfl⟩, by rfl, ⟨_, rfl⟩, ⟨_, rfl⟩⟩, ?turn, ?fin⟩
  case fin =>
    rintro m' nw' h6 tk6 ⟨rfl, -, -, -, ⟨t4, hs4⟩, -⟩ F6 N6
    rw [fr_know hs4] at F6
    clear F5 N5 hs4
    k_steps
    exact hret _ _ _ (by assumption) ⟨⟨_, rfl⟩, by assumption⟩
  case turn =>
    rintro I i ti m₁ nw₁ h6 tk6 own hi ⟨rfl, ⟨t1, hs1⟩, ⟨t2, hs2⟩, hs3, ⟨t4, hs4⟩, ⟨t5, hs5⟩⟩ F6 N6 hnI hown
    rw [fr_know hs1, fr_know hs2, fr_know hs3, fr_know hs4, fr_know hs5] at F6
    dsimp only at F6
    have ho6 := List.mem_append_right own ho
    obtain ⟨hr0, hr1⟩ := figF_b (start := start) (plays := plays) ho00 ho01 ho10 ho11 i
    have h5 := five_pow (n := i) (by omega)
    have h2p : (2 : Int) ^ (2 - (i : Int)).toNat ≠ 0 ∧ ((2 : Int) ^ (2 - (i : Int)).toNat).natAbs < 1073741824 := by
      exact (show ∀ n < 3, (2 : Int) ^ (2 - ((n : Nat) : Int)).toNat ≠ 0 ∧ ((2 : Int) ^ (2 - ((n : Nat) : Int)).toNat).natAbs < 1073741824 by decide) i (by omega)
    obtain ⟨h2a, h2b⟩ := h2p
    have hpw := pow_b (x := o0 + o1) (odds_one ho00 ho10) (Int.add_le_add ho01 ho11) (plays - 1 - (i : Int)).toNat
    have hpw2 := ten_pow (n := (plays - 1 - (i : Int)).toNat) (by omega)
    obtain ⟨hpw0, hpw1⟩ := hpw
    obtain ⟨ha0, ha1⟩ := prod_b hr0 (by omega) ho00 ho01
    clear F5 N5 hs1 hs2 hs3 hs4 hs5
    k_steps
    · rename _ = (1 : Int) => hc
      rename Fr _ _ _ _ => F9
      dsimp only at F9
      exact TurnEnd.mk F9 (by assumption) hnI ⟨rfl, ⟨_, by rfl⟩, ⟨_, by rfl⟩, by rfl, ⟨_, by rw [figF_t hc]; rfl⟩, ⟨_, by rw [figF_t hc]; rfl⟩⟩
    · rename _ ≠ (1 : Int) => hc
      rename Fr _ _ _ _ => F9
      dsimp only at F9
      exact TurnEnd.mk F9 (by assumption) hnI ⟨rfl, ⟨_, by rfl⟩, ⟨_, by rfl⟩, by rfl, ⟨_, by rw [figF_f hc]; rfl⟩, ⟨_, by rw [figF_f hc]; rfl⟩⟩
end
end Mine

end
section
open PySem PySem.W PyProof.Rows PySem.Spec PySem.Calls PyProof.Rows.LCg PyProof.Rows.LCt PyProof.Rows.LCp
set_option Elab.async false
set_option maxRecDepth 100000
set_option maxHeartbeats 8000000
namespace Mine
section
variable {prog : Program} {w : World} {A : Around} {E : Value → Shared → Prop} {s : Shared} {env : Env} {h₀ : Heap} {Q : Flow → Shared → Prop} {body : List Stmt}
/-- the same, the iterator told -/
def RangeLoopC (prog : Program) (w : World) (A : Around) (h₀ : Heap) (env : Env) (x : Str) (body : List Stmt) (Q : Flow → Shared → Prop) (E : Value → Shared → Prop) (xv : Value) (s₁ : Shared) : Prop :=
  ∃ (r : Addr) (n : Nat) (b : Int) (t u v : Tok) (m : Str → Option Value) (nw : List (Addr × Obj)) (J : Nat → (Str → Option Value) → List (Addr × Obj) → Prop),
    xv = .ref r ∧ A.handled = none ∧ IsRange s₁.heap r 0 b 1 t u v ∧ b = (n : Int) ∧ n ≤ 100000 ∧ Fr h₀ env.locals s₁.heap m ∧ News h₀ env.locals s₁.heap nw ∧ J 0 m nw ∧
    (∀ I oI (i : Nat) t m₁ nw₁ h tk, i < n → J i m₁ nw₁ → Fr h₀ env.locals h (fun y => if y = x then some (.int i t) else m₁ y) → News h₀ env.locals h ((I, oI) :: nw₁) → (∀ p ∈ nw₁, p.1 ≠ I) →
      wpAny (model prog w) A (execs body env) (TurnEnd h₀ env.locals I [(I, oI)] (J (i + 1)) { s₁ with heap := h, toks := tk } Q) E { s₁ with heap := h, toks := tk }) ∧
    (∀ m' nw' h' tk, J n m' nw' → Fr h₀ env.locals h' m' → News h₀ env.locals h' nw' → Q .next { s₁ with heap := h', toks := tk })
theorem For_RC {x : Str} {px pos : Pos} {iter : PySem.Expr} {m₀ : Str → Option Value} (h₀ : Heap) (_F₀ : Fr h₀ env.locals s.heap m₀) (hx : env.kindOf x = some .local)
    (hp : (env.scope.kind == .class || (env.scope.kind == .module && env.locals != env.globals)) = false)
    (h : wpAny (model prog w) A (eval iter env) (RangeLoopC prog w A h₀ env x body Q E) E s)
    (hs : ∀ x, foldedSetIterable iter env x = pure x)
    (hE : PassesOwn (model prog w) A env E) :
    wpAny (model prog w) A (exec (.For (.Name x px) iter body [] pos) env) Q E s := by
  refine For_invV h₀ hx hp (wpAny_mono h (fun xv s₁ h₁ => ?_) fun _ _ e => e) hs hE
  obtain ⟨r, n, b, t, u, v, m, nw, J, rfl, hh, hr, rfl, hn, F, N, hj, turn, done⟩ := h₁
  have hsm := range_small hn
  refine wpAny_pyIter_range hr hsm.1 ?_
  have WW := (Walks.range (prog := prog) (w := w) hh s₁.heap.objs.size 0 1 n).bound
  refine ⟨_, _, _, n, _, _, m, nw, J, rfl, WW, ?_, ?_, ?_, (by show IsRangeIter _ _ _ _ _; rw [hsm.2]; simpa using Heap.get?_push_size _ rfl), F.push _, (fun p hp => ⟨Heap.get?_push_of_some _ (N p hp).1, (N p hp).2⟩), hj, ?_, ?_⟩
  · intro hm
    exact absurd F.ns.lt ((List.mem_singleton.mp hm) ▸ Nat.lt_irrefl _)
  · intro b hb
    rw [List.mem_singleton.mp hb]
    exact next_is_new F
  · intro p hp hI
    exact absurd (Heap.lt_size (N p hp).1) ((List.mem_singleton.mp hI) ▸ Nat.lt_irrefl _)
  · rintro i v m₁ news₁ s₁' own ⟨hh', tk', rfl⟩ hin hP hJ hoff hown hget hfp st F₁ N₁
    obtain ⟨_, t', rfl⟩ := hP
    have hnI : ∀ p ∈ news₁, p.1 ≠ s₁.heap.objs.size := fun p hp e => hoff p hp (by rw [e]; exact .head _)
    rw [show (0 : Int) + (i : Nat) * 1 = (i : Int) by omega] at F₁
    obtain ⟨oI, hgI⟩ : ∃ oI, Heap.get? hh' s₁.heap.objs.size = some oI := ⟨_, st⟩
    have hI := hfp _ (.head _) (next_is_new F) oI hgI
    refine wpAny_mono (turn _ oI i t' m₁ news₁ hh' tk' hin hJ F₁ (fun p hp => ?_) hnI) (fun f s₂ p => ?_) fun _ _ e => e
    · rcases List.mem_cons.mp hp with rfl | hp
      · exact N₁ _ (List.mem_append_left _ hI)
      · exact N₁ _ (List.mem_append_right _ hp)
    have fin : (∃ h' tk m' nw', s₂ = { { s₁ with heap := hh', toks := tk' } with heap := h', toks := tk } ∧ Fr h₀ env.locals h' m' ∧ News h₀ env.locals h' ([(s₁.heap.objs.size, oI)] ++ nw') ∧ (∀ p ∈ nw', p.1 ≠ s₁.heap.objs.size) ∧ J (i + 1) m' nw') →
        LoopStepU h₀ env.locals [s₁.heap.objs.size] own (J (i + 1)) { s₁ with heap := hh', toks := tk' } .next s₂ := by
      rintro ⟨h', tk, m', nw', e, F', N', hn, hm⟩
      refine ⟨rfl, h', tk, m', nw', e, F', fun p hp => ?_, fun p hp hI => hn p hp (List.mem_singleton.mp hI), hm⟩
      rcases List.mem_append.mp hp with hp | hp
      · have z := hown p hp
        simp only [List.mem_cons, List.not_mem_nil, or_false] at z
        have g := hget p hp
        rw [z] at g
        dsimp only at g
        rw [hgI] at g
        obtain ⟨a, b⟩ := p
        dsimp only at z g
        subst z
        obtain rfl := Option.some.inj g
        exact N' _ (.head _)
      · exact N' _ (List.mem_append_right _ hp)
    cases f with
    | ret v => exact .ret p
    | brk => exact .brk p
    | next => exact .next (fin p)
    | cont => exact .cont (fin p)
  · rintro h' tk' m' news' F' N' _ hJ
    exact done m' news' h' tk' hJ F' N'
end
end Mine

end
section
open PySem PySem.W PyProof.Rows PySem.Spec PySem.Calls PyProof.Rows.LCg
set_option Elab.async false
set_option maxRecDepth 100000
set_option maxHeartbeats 8000000
namespace Mine
section
variable {M : Model} {A : Around} {E : Value → Shared → Prop} {s : Shared}
/-- a scope whose one cell is x -/
structure OneCell (scope : Scope) (x : Str) (cl : List (Str × Addr)) : Prop where
  cells : ∀ n, cellsFrom n scope.names cl = (x, n) :: cl
  push : ∀ h, pushCells h scope.names = h.push { cls := .type "cell", data := .cell none }
theorem newEnv_one {scope : Scope} {x : Str} {globals : Addr} {cl : List (Str × Addr)} {qual : Str} {env : Env} {Q : Env → Shared → Prop} (hc : OneCell scope x cl)
    (hQ : Q (newEnv scope s.heap.objs.size globals ((x, s.heap.objs.size + 1) :: cl) qual none .none (some env) builtinsNs)
      { s with heap := (s.heap.push { cls := .type "dict", data := .dict #[] }).push { cls := .type "cell", data := .cell none } }) :
    wpAny M A (newFunctionEnv scope globals cl [] qual none .none (some env)) Q E s := by
  simp only [newFunctionEnv, Option.isSome_some, if_true]
  refine wpAny_bind (wpAny_alloc ?_)
  refine wpAny_bind (wpAny_layCells _ (fun name kind cells => by cases hkc : kind == NameKind.cell <;> simp [hkc]) _ _ _ _ ?_)
  rw [hc.cells, hc.push]
  refine wpAny_bind ?_
  rw [List.forIn_nil]
  refine wpAny_pure (wpAny_pure ?_)
  rw [show ({ s with heap := s.heap.push { cls := .type "dict", data := .dict #[] } } : Shared).heap.objs.size = s.heap.objs.size + 1 from Heap.size_push ..]
  exact hQ
end
theorem lookup_relabel_cell {env : Env} : ∀ {names : List (Str × NameKind)} {x : Str}, names.lookup x = some .cell →
    (names.map fun (n, k) => if (k == NameKind.free && env.scope.kind == .function && env.kindOf n == some .cell) then (n, NameKind.cell) else (n, k)).lookup x = some .cell
  | [], _, h => by simp at h
  | (n, k) :: r, x, h => by
    have ih := @lookup_relabel_cell env r x
    show List.lookup x ((if (k == NameKind.free && env.scope.kind == .function && env.kindOf n == some .cell) = true then (n, NameKind.cell) else (n, k)) :: _) = _
    cases hx : x == n with
    | true =>
      simp only [List.lookup_cons, hx] at h
      cases h
      simp [List.lookup_cons, hx]
    | false =>
      simp only [List.lookup_cons, hx] at h
      by_cases hc : (k == NameKind.free && env.scope.kind == .function && env.kindOf n == some .cell) = true
      · rw [if_pos hc]; simp only [List.lookup_cons, hx]; exact ih h
      · rw [if_neg hc]; simp only [List.lookup_cons, hx]; exact ih h
section
variable {prog : Program} {w : World} {A : Around} {E : Value → Shared → Prop} {s : Shared} {h₀ : Heap} {L : Addr} {m : Str → Option Value} {env : Env}
/-- a list comprehension over range(n) whose variable is a cell: what the source must give -/
def CellSrc (prog : Program) (w : World) (A : Around) (h₀ : Heap) (L : Addr) (m : Str → Option Value) (env : Env) (elt : PySem.Expr) (x : Str) (scope : Scope) (cl : List (Str × Addr)) (Q : Value → Shared → Prop) (xv : Value) (s₁ : Shared) : Prop :=
  ∃ (r : Addr) (n : Nat) (b : Int) (t u v : Tok) (news : List (Addr × Obj)) (g : Nat → Int), xv = .ref r ∧ A.handled = none ∧ IsRange s₁.heap r 0 b 1 t u v ∧ b = (n : Int) ∧ n ≤ 1000 ∧ Fr h₀ L s₁.heap m ∧ News h₀ L s₁.heap news ∧
    (∀ (i : Nat) (t : Tok) I oI C oC K oK D ys h tk (E' : Value → Shared → Prop), i < n → oK.data = .cell (some (.int i t)) → Fr h₀ L h m → News h₀ L h ((I, oI) :: (C, oC) :: (K, oK) :: (D, lst ys) :: news) →
      wpAny (model prog w) A (eval elt (compEnvC scope ((x, K) :: cl) C env)) (fun y s₂ => ∃ h' tk' t', y = .int (g i) t' ∧ s₂ = { s₁ with heap := h', toks := tk' } ∧ Fr h₀ L h' m ∧ News h₀ L h' ((I, oI) :: (C, oC) :: (K, oK) :: (D, lst ys) :: news)) E' { s₁ with heap := h, toks := tk }) ∧
    (∀ D ys h tk, Fr h₀ L h m → News h₀ L h ((D, lst ys) :: news) → (∀ p ∈ news, p.1 ≠ D) → IntsAre ys ((List.range n).map g) → Q (.ref D) { s₁ with heap := h, toks := tk })
theorem intsAre_snoc2 {vs ns} (h : IntsAre vs ns) (n : Int) (t : Tok) : IntsAre (vs ++ [.int n t]) (ns ++ [n]) := by
  induction h with
  | nil => exact .cons _ _ .nil
  | cons _ _ _ ih => exact .cons _ _ ih
theorem ListComp_K {elt iter : PySem.Expr} {x : Str} {px : Pos} {scope : Scope} {cl : List (Str × Addr)} {pos : Pos} {Q : Value → Shared → Prop} (_F₀ : Fr h₀ L s.heap m)
    (hclos : closureFor scope env = pure cl) (hone : OneCell scope x cl) (hkind : scope.kind = .function)
    (hnames : ∀ y ∈ scope.names, y.2 = .local → scope.names.lookup y.1 = some .local) (hx : scope.names.lookup x = some .cell)
    (h : wpAny (model prog w) A (eval iter env) (CellSrc prog w A h₀ L m env elt x scope cl Q) E s)
    (hs : ∀ x, foldedSetIterable iter env x = pure x := by intro _; rfl) :
    wpAny (model prog w) A (eval (.ListComp elt [⟨.Name x px, iter, [], 0⟩] scope pos) env) Q E s := by
  rw [eval_ListComp]
  refine wpAny_comprehension_free (use := none) rfl hs hclos hkind hnames (wpAny_mono h (fun xv s₁ h₁ => ?_) fun _ _ e => e)
  obtain ⟨r, n, b, t, u, v, news, g, rfl, hh, hr, rfl, hn, F, N, turn, fin⟩ := h₁
  have hsm : Builtin.Range.small 0 (n : Int) 1 = true ∧ Builtin.Range.rangeSize 0 (n : Int) 1 = (n : Int) := ⟨small_one (by omega) (by omega) (by omega) (by omega), by rw [rangeSize_one]; split <;> omega⟩
  refine wpAny_pyIter_range hr hsm.1 ?_
  rw [hsm.2]
  generalize hH1 : s₁.heap.push { cls := .type "range_iterator", data := .fields #[rawInt 0, rawInt (n : Int), rawInt 1] } = H1
  refine wpAny_newObj_type (newEnv_one hone ?_)
  dsimp only
  generalize hH2 : H1.push { cls := .type "list", dict := none, data := .seq ([] : List Value).toArray } = H2
  generalize hH4 : (H2.push { cls := .type "dict", data := .dict #[] }).push { cls := .type "cell", data := .cell none } = H4
  have z1 : H1.objs.size = s₁.heap.objs.size + 1 := by rw [← hH1, Heap.size_push]
  have z2 : H2.objs.size = s₁.heap.objs.size + 2 := by rw [← hH2, Heap.size_push, z1]
  generalize hI : s₁.heap.objs.size = I at *
  rw [z1, z2]
  have up : ∀ b o, s₁.heap.get? b = some o → H4.get? b = some o := fun b o e => by
    rw [← hH4, ← hH2, ← hH1]
    exact Heap.get?_push_of_some _ (Heap.get?_push_of_some _ (Heap.get?_push_of_some _ (Heap.get?_push_of_some _ e)))
  have gI : H4.get? I = some { cls := .type "range_iterator", data := .fields #[rawInt 0, rawInt (n : Int), rawInt 1] } := by
    rw [← hH4, ← hH2, ← hH1]
    exact Heap.get?_push_of_some _ (Heap.get?_push_of_some _ (Heap.get?_push_of_some _ (hI ▸ Heap.get?_push_size _ rfl)))
  have gD : H4.get? (I + 1) = some (lst []) := by
    rw [← hH4, ← hH2]
    exact Heap.get?_push_of_some _ (Heap.get?_push_of_some _ (z1 ▸ Heap.get?_push_size _ rfl))
  have gC : H4.Ns (I + 2) (fun _ => none) := by
    rw [← hH4]
    have := (Heap.Ns.new H2 (.type "dict"))
    rw [z2] at this
    exact this.keeps fun b o e => Heap.get?_push_of_some _ e
  have gK : H4.get? (I + 3) = some { cls := .type "cell", data := .cell none } := by
    rw [← hH4]
    have := Heap.get?_push_size (H2.push { cls := .type "dict", data := .dict #[] }) (o := { cls := .type "cell", data := .cell none }) rfl
    rw [Heap.size_push, z2] at this
    exact this
  have lt0 : ∀ b o, h₀.get? b = some o → @LT.lt Nat instLTNat b I := fun b o e => hI ▸ Heap.lt_size (F.keep b o e)
  have fresh₀ : ∀ a, @LE.le Nat instLENat I a → h₀.get? a = none := fun a ha => by
    cases e : h₀.get? a with
    | none => rfl
    | some o' => exact absurd (lt0 a o' e) (Nat.not_lt.mpr ha)
  have hLlt : @LT.lt Nat instLTNat L I := hI ▸ F.ns.lt
  have newsLt : ∀ p ∈ news, @LT.lt Nat instLTNat p.1 I := fun p hp => hI ▸ Heap.lt_size (N p hp).1
  have W := range_walks (prog := prog) (w := w) (I := I) hh 0 n
  have hkx : Env.kindOf (compEnvC scope ((x, I + 3) :: cl) (I + 2) env) x = some .cell := lookup_relabel_cell hx
  have hcx : (compEnvC scope ((x, I + 3) :: cl) (I + 2) env).cells.lookup x = some (I + 3) := by simp [compEnvC]
  show codeAny (model prog w) A (.compStart _ 0 (.ref I) (.ref (I + 1)) (compEnvC scope ((x, I + 3) :: cl) (I + 2) env)) _ _
  have loop : codeAny (model prog w) A (.compLoop (.ListComp elt [⟨.Name x px, iter, [], 0⟩] scope pos) 0 (.ref I) (.ref (I + 1)) (compEnvC scope ((x, I + 3) :: cl) (I + 2) env)) (compPost (model prog w) A E none Q (.ref (I + 1)) (I + 2)) { s₁ with heap := H4 } := by
    refine codeAny_compLoop_tests
      (fun k s' => ∃ h' tk i ys oK vk, s' = { s₁ with heap := h', toks := tk } ∧ i ≤ n ∧ k = n + 1 - i ∧ IsRangeIter h' I (0 + (i : Nat) * 1) ((n : Int) - (i : Nat)) 1 ∧ Fr h₀ L h' m ∧ h'.Ns (I + 2) (fun _ => none) ∧
        News h₀ L h' ((I + 3, oK) :: (I + 1, lst ys) :: news) ∧ oK.data = .cell vk ∧ IntsAre ys ((List.range i).map g)) ?_ (n + 1)
      ⟨H4, _, 0, [], { cls := .type "cell", data := .cell none }, none, rfl, Nat.zero_le _, rfl, by show H4.get? I = _; rw [gI]; simp, F.keeps up, gC, fun p hp => ?_, rfl, .nil⟩
    · rintro k s' ⟨h', tk, i, ys, oK, vk, rfl, hi, rfl, hst', F', hn', N', hoK, hys⟩
      by_cases hlt : i < n
      · refine W.item i _ _ _ hlt hst' fun v h₂ tk₂ hPv hst₂ hk₂ => ?_
        obtain ⟨ti, rfl⟩ := hPv
        rw [show (0 : Int) + (i : Int) = (i : Int) by omega]
        have k2 : ∀ b o, b ≠ I → h'.get? b = some o → h₂.get? b = some o := fun b o hb e => hk₂ b o (by simpa using hb) e
        have hK2 : h₂.IsCell (I + 3) vk := ⟨oK, k2 _ _ (by omega) (N' _ (.head _)).1, hoK⟩
        refine wpAny_assign_Name (wpAny_storeName_cell (env := compEnvC scope ((x, I + 3) :: cl) (I + 2) env) (by simp [compEnvC, relabel, hkind]) hkx hcx hK2 fun h₃ hc₃ hs₃ => ?_)
        refine wpAny_tests_nil ?_
        simp only [if_true]
        obtain ⟨oK3, gK3, dK3⟩ := hc₃
        have k3 : ∀ b o, b ≠ I → b ≠ I + 3 → h'.get? b = some o → h₃.get? b = some o := fun b o hb hb3 e => hs₃.extBut b o hb3 (k2 b o hb e)
        have F₂ : Fr h₀ L h₂ m := fr_but F' hk₂ (Nat.ne_of_lt hLlt) (fresh₀ _ (Nat.le_refl _))
        have F₃ : Fr h₀ L h₃ m := F₂.change hs₃ (Nat.ne_of_gt (Nat.lt_add_right 3 hLlt)) (fresh₀ _ (Nat.le_add_right _ _))
        obtain ⟨oC, gC2, nC⟩ := ns_obj hn'
        have gI3 : h₃.get? I = some _ := hs₃.extBut I _ (Nat.ne_of_lt (Nat.lt_add_of_pos_right (by decide))) hst₂
        have N₃ : News h₀ L h₃ ((I, _) :: (I + 2, oC) :: (I + 3, oK3) :: (I + 1, lst ys) :: news) := fun p hp => by
          rcases List.mem_cons.mp hp with rfl | hp
          · exact ⟨gI3, Nat.ne_of_gt hLlt, fresh₀ _ (Nat.le_refl _)⟩
          rcases List.mem_cons.mp hp with rfl | hp
          · exact ⟨k3 _ _ (by omega) (by omega) gC2, Nat.ne_of_gt (Nat.lt_add_right 2 hLlt), fresh₀ _ (Nat.le_add_right _ _)⟩
          rcases List.mem_cons.mp hp with rfl | hp
          · exact ⟨gK3, Nat.ne_of_gt (Nat.lt_add_right 3 hLlt), fresh₀ _ (Nat.le_add_right _ _)⟩
          have z := N' p (.tail _ hp)
          refine ⟨k3 _ _ ?_ ?_ z.1, z.2⟩
          · rcases List.mem_cons.mp hp with rfl | hp
            · show I + 1 ≠ I; omega
            · exact Nat.ne_of_lt (newsLt p hp)
          · rcases List.mem_cons.mp hp with rfl | hp
            · show I + 1 ≠ I + 3; omega
            · exact Nat.ne_of_lt (Nat.lt_add_right 3 (newsLt p hp))
        refine wpAny_mono (turn i ti I _ (I + 2) oC (I + 3) oK3 (I + 1) ys h₃ _ _ hlt dK3 F₃ N₃) (fun y s₄ h₄ => ?_) fun _ _ e => e
        obtain ⟨h₄, tk₄, t', rfl, rfl, F₄, N₄⟩ := h₄
        have zI := (N₄ _ (.head _)).1
        have zC := (N₄ _ (.tail _ (.head _))).1
        have zD := (N₄ _ (.tail _ (.tail _ (.tail _ (.head _))))).1
        have hyl : ys.length = i := by rw [IntsAre.length hys, List.length_map, List.length_range]
        refine append_at (hsz := by rw [List.size_toArray, hyl, sizeLine_eq]; exact Nat.le_trans (Nat.le_of_lt hlt) (Nat.le_trans hn (by decide))) zD fun h₅ hs₅ hD₅ => ?_
        refine ⟨n + 1 - (i + 1), Nat.sub_lt_sub_left (Nat.lt_succ_of_lt hlt) (Nat.lt_succ_self i), h₅, tk₄, i + 1, ys ++ [.int (g i) t'], oK3, _, rfl, hlt, rfl, hs₅.extBut I _ (Nat.ne_of_lt (Nat.lt_add_of_pos_right (by decide))) zI, F₄.change hs₅ (Nat.ne_of_gt (Nat.lt_add_right 1 hLlt)) (fresh₀ _ (Nat.le_add_right _ _)),
          (nC.ns zC).sameBut hs₅ (Nat.ne_of_gt (Nat.lt_succ_self (I + 1))), fun p hp => ?_, dK3, by rw [List.range_succ, List.map_append]; exact intsAre_snoc2 hys _ _⟩
        rcases List.mem_cons.mp hp with rfl | hp
        · have z := N₄ _ (.tail _ (.tail _ (.head _)))
          exact ⟨hs₅.extBut _ _ (by show I + 3 ≠ I + 1; omega) z.1, z.2⟩
        rcases List.mem_cons.mp hp with rfl | hp
        · exact ⟨hD₅.trans (congrArg some (lst_snoc ys _)), (N₄ _ (.tail _ (.tail _ (.tail _ (.head _))))).2⟩
        · have z := N₄ p (.tail _ (.tail _ (.tail _ (.tail _ hp))))
          exact ⟨hs₅.extBut _ _ (Nat.ne_of_lt (Nat.lt_add_right 1 (newsLt p hp))) z.1, z.2⟩
      · obtain rfl : i = n := Nat.le_antisymm hi (Nat.not_lt.mp hlt)
        refine W.done _ _ _ hst' fun h₂ tk₂ hk₂ => ?_
        have k2 : ∀ b o, b ≠ I → h'.get? b = some o → h₂.get? b = some o := fun b o hb e => hk₂ b o (by simpa using hb) e
        refine ⟨_, hn'.at' fun o e => k2 _ _ (by omega) e, fun h'' hs'' => fin (I + 1) ys h'' tk₂ ?_ (fun p hp => ?_) (fun p hp => Nat.ne_of_lt (Nat.lt_add_right 1 (newsLt p hp))) hys⟩
        · exact (fr_but F' hk₂ (Nat.ne_of_lt hLlt) (fresh₀ _ (Nat.le_refl _))).change hs'' (Nat.ne_of_gt (Nat.lt_add_right 2 hLlt)) (fresh₀ _ (Nat.le_add_right _ _))
        · have z := N' p (.tail _ hp)
          refine ⟨hs''.extBut _ _ ?_ (k2 _ _ ?_ z.1), z.2⟩
          · rcases List.mem_cons.mp hp with rfl | hp
            · show I + 1 ≠ I + 2; omega
            · exact Nat.ne_of_lt (Nat.lt_add_right 2 (newsLt p hp))
          · rcases List.mem_cons.mp hp with rfl | hp
            · show I + 1 ≠ I; omega
            · exact Nat.ne_of_lt (newsLt p hp)
    · rcases List.mem_cons.mp hp with rfl | hp
      · exact ⟨gK, Nat.ne_of_gt (Nat.lt_add_right 3 hLlt), fresh₀ _ (Nat.le_add_right _ _)⟩
      rcases List.mem_cons.mp hp with rfl | hp
      · exact ⟨gD, Nat.ne_of_gt (Nat.lt_add_right 1 hLlt), fresh₀ _ (Nat.le_add_right _ _)⟩
      · exact ⟨up _ _ (N p hp).1, (N p hp).2⟩
  exact codeAny_compStart_list loop (W.self 0 _ _ _ (by show H4.get? I = _; rw [gI]; simp) loop)
end
end Mine

end
section
open PySem PySem.W PyProof.Rows PySem.Spec PySem.Calls PyProof.Rows.LCg PyProof.Rows.LCt PyProof.Rows.LCp PySem.Flt
set_option Elab.async false
set_option maxRecDepth 100000
set_option maxHeartbeats 8000000
namespace Mine
theorem freshConN : True := by
  w_top off
  trivial
theorem fillN : (fun (_ : OpenLaw) (_ : Params → Frag) => True) PySem.Challenge.rw_tp0024_01 hd.heap_39 := by
  k_fill
  trivial
variable (w : World) (mean : ExcName → Option Value) (mg mb : Str → Option Value)
noncomputable def maxL : List Int → Int
  | [] => 0
  | x :: r => r.foldl max x
theorem foldl_max : ∀ (l : List Int) (z : Int), (l.foldl max z = z ∨ l.foldl max z ∈ l) ∧ z ≤ l.foldl max z ∧ ∀ a ∈ l, a ≤ l.foldl max z
  | [], z => ⟨.inl rfl, Int.le_refl _, fun a h => by cases h⟩
  | x :: r, z => by
    obtain ⟨a, b, c⟩ := foldl_max r (max z x)
    rw [List.foldl_cons]
    refine ⟨?_, by omega, fun y hy => ?_⟩
    · rcases a with a | a
      · rw [a]
        rcases Int.le_total z x with h | h
        · right; rw [Int.max_eq_right h]; exact .head _
        · left; exact Int.max_eq_left h
      · exact .inr (.tail _ a)
    · rcases List.mem_cons.mp hy with rfl | hy
      · omega
      · exact c y hy
theorem maxL_of {ns : List Int} {M : Int} (hm : M ∈ ns) (hg : ∀ a ∈ ns, a ≤ M) : M = maxL ns := by
  cases ns with
  | nil => cases hm
  | cons x r =>
    obtain ⟨a, b, c⟩ := foldl_max r x
    show M = r.foldl max x
    have h1 : M ≤ r.foldl max x := by
      rcases List.mem_cons.mp hm with rfl | hm
      · exact b
      · exact c M hm
    have h2 : r.foldl max x ≤ M := by
      rcases a with a | a
      · rw [a]; exact hg x (.head _)
      · exact hg _ (.tail _ a)
    omega
theorem max_L {prog : Program} {w : World} {A : Around} {E : Value → Shared → Prop} {s : Shared} {h₀ : Heap} {L l : Addr} {m : Str → Option Value} {news : List (Addr × Obj)} {its : Array Value} {n : Nat} {ns : List Int} {Q : Value → Shared → Prop} (hh : A.handled = none) (F : Fr h₀ L s.heap m) (N : News h₀ L s.heap news) (hm : (l, W.listOf its n) ∈ news)
    (hi : IntsAre its.toList ns) (hne : 0 < ns.length) (h : ∀ h' t tk, Fr h₀ L h' m → News h₀ L h' news → Q (.int (maxL ns) t) { s with heap := h', toks := tk }) : wpAny (model prog w) A (call (.builtin "max") [.ref l]) Q E s :=
  max_list_N (vs := its.toList) hh F N ⟨_, (N _ hm).1, by simp [W.listOf], n, by simp [W.listOf]⟩ hi hne fun h' M t tk F' N' a b => by rw [maxL_of a b]; exact h h' t tk F' N'
noncomputable def bestRow (o0 o1 : Int) (b : List Int) (k : Int) : List Int := (List.range ((if 8 - k < k then 8 - k else k) + 1).toNat).map fun (st : Nat) => o0 * b.getD (k + (st : Int)).toNat 0 + o1 * b.getD (k - (st : Int)).toNat 0
noncomputable def bestF (o0 o1 : Int) : Nat → List Int
  | 0 => [0, 0, 0, 0, 0, 0, 0, 0, 1]
  | i + 1 => (List.range 9).map fun (k : Nat) => maxL (bestRow o0 o1 (bestF o0 o1 i) (k : Int))
theorem hold_back {P : Prop} (h : P) : Hold P := h
theorem bestF_len (o0 o1 : Int) : ∀ i, (bestF o0 o1 i).length = 9
  | 0 => rfl
  | i + 1 => by rw [bestF, List.length_map, List.length_range]
theorem bestF_b {o0 o1 : Int} (a0 : 1 ≤ o0) (a1 : o0 ≤ 5) (b0 : 1 ≤ o1) (b1 : o1 ≤ 5) : ∀ i j, 0 ≤ (bestF o0 o1 i).getD j 0 ∧ (bestF o0 o1 i).getD j 0 ≤ 10 ^ i
  | 0, j => by
    by_cases hj : j < 9
    · have key : ∀ j < 9, 0 ≤ ([0, 0, 0, 0, 0, 0, 0, 0, 1] : List Int).getD j 0 ∧ ([0, 0, 0, 0, 0, 0, 0, 0, 1] : List Int).getD j 0 ≤ 10 ^ 0 := by decide
      exact key j hj
    · rw [List.getD_eq_getElem?_getD, List.getElem?_eq_none (Nat.le_of_not_lt hj)]
      exact ⟨Int.le_refl _, by decide⟩
  | i + 1, j => by
    have ih := bestF_b (o0 := o0) (o1 := o1) a0 a1 b0 b1 i
    have p0 : (0 : Int) ≤ 10 ^ i := Int.pow_nonneg (by decide)
    rw [List.getD_eq_getElem?_getD]
    cases e : (bestF o0 o1 (i + 1))[j]? with
    | none => exact ⟨by simp, Int.pow_nonneg (by decide)⟩
    | some x =>
      have hm := List.mem_of_getElem? e
      rw [bestF] at hm
      obtain ⟨k, _, rfl⟩ := List.mem_map.mp hm
      have hall : ∀ y ∈ bestRow o0 o1 (bestF o0 o1 i) (k : Int), 0 ≤ y ∧ y ≤ 10 ^ (i + 1) := by
        intro y hy
        obtain ⟨st, _, rfl⟩ := List.mem_map.mp hy
        obtain ⟨c0, c1⟩ := ih ((k : Int) + (st : Int)).toNat
        obtain ⟨d0, d1⟩ := ih ((k : Int) - (st : Int)).toNat
        have q0 := Int.mul_nonneg (Int.le_trans (by decide) a0) c0
        have q1 := Int.mul_nonneg (Int.le_trans (by decide) b0) d0
        have r0 := Int.mul_le_mul a1 c1 c0 (by decide)
        have r1 := Int.mul_le_mul b1 d1 d0 (by decide)
        rw [Int.pow_succ]
        omega
      show 0 ≤ maxL _ ∧ maxL _ ≤ _
      cases hr : bestRow o0 o1 (bestF o0 o1 i) (k : Int) with
      | nil => exact ⟨Int.le_refl _, Int.pow_nonneg (by decide)⟩
      | cons a r =>
        rw [hr] at hall
        obtain ⟨q, q1, _⟩ := foldl_max r a
        show 0 ≤ r.foldl max a ∧ r.foldl max a ≤ _
        rcases q with q | q
        · rw [q]; exact hall a (.head _)
        · exact hall _ (.tail _ q)
theorem storeX_U {M : Model} {A : Around} {E : Value → Shared → Prop} {s : Shared} {h₀ : Heap} {L c : Addr} {m : Str → Option Value} {news : List (Addr × Obj)} {o : Obj} {x : Str} {v : Value} {v₀ : Option Value} {env : Env} {Q : Unit → Shared → Prop} (F : Fr h₀ L s.heap m) (N : News h₀ L s.heap news) (hc : env.cells.lookup x = some c) (hm : (c, o) ∈ news) (hd : o.data = .cell v₀)
    (hk : env.scope.kind = .function) (hx : env.kindOf x = some .cell)
    (h : ∀ h' o', Fr h₀ L h' m → News h₀ L h' (upd c o' news) → o'.data = .cell (some v) → Q () { s with heap := h' }) : wpAny M A (storeName env x v) Q E s := by
  have hmem := N _ hm
  refine wpAny_storeName_cell hk hx hc ⟨o, hmem.1, hd⟩ fun h' hv hs => ?_
  obtain ⟨o', ho', hd'⟩ := hv
  exact h h' o' (F.change hs hmem.2.1 hmem.2.2) (N.update hm hs ho') hd'
theorem min8_small {i : Nat} (h : i < 9) : Builtin.Range.small 0 ((if 8 - (i : Int) < (i : Int) then 8 - (i : Int) else (i : Int)) + 1) 1 = true := (by decide +kernel : ∀ i : Nat, i < 9 → Builtin.Range.small 0 ((if 8 - (i : Int) < (i : Int) then 8 - (i : Int) else (i : Int)) + 1) 1 = true) i h
theorem min8_size {i : Nat} (h : i < 9) : ((if 8 - (i : Int) < (i : Int) then 8 - (i : Int) else (i : Int)) + 1 - 0).toNat ≤ 16777216 := (by decide +kernel : ∀ i : Nat, i < 9 → ((if 8 - (i : Int) < (i : Int) then 8 - (i : Int) else (i : Int)) + 1 - 0).toNat ≤ 16777216) i h
theorem min8_le {i : Nat} (h : i < 9) : (if 8 - (i : Int) < (i : Int) then 8 - (i : Int) else (i : Int)) ≤ (i : Int) ∧ (if 8 - (i : Int) < (i : Int) then 8 - (i : Int) else (i : Int)) ≤ 8 - (i : Int) ∧ 0 ≤ (if 8 - (i : Int) < (i : Int) then 8 - (i : Int) else (i : Int)) := (by decide +kernel : ∀ i : Nat, i < 9 → (if 8 - (i : Int) < (i : Int) then 8 - (i : Int) else (i : Int)) ≤ (i : Int) ∧ (if 8 - (i : Int) < (i : Int) then 8 - (i : Int) else (i : Int)) ≤ 8 - (i : Int) ∧ 0 ≤ (if 8 - (i : Int) < (i : Int) then 8 - (i : Int) else (i : Int))) i h
/-- what stands before a play -/
def JB2 (od c1 c2 : Addr) (oo : Obj) (start o0 o1 : Int) (news : List (Addr × Obj)) (i : Nat) (m : Str → Option Value) (nw : List (Addr × Obj)) : Prop :=
  (∃ t, m (Str.ofString "start") = some (.int start t)) ∧ ∃ l o vals n, nw = (l, W.listOf vals n) :: (c2, o) :: (c1, oo) :: news ∧ o.data = Data.cell (some (.ref l)) ∧ IntsAre vals.toList (bestF o0 o1 i)
section
local macro_rules | `(tactic| walk_at "call builtin:max") => `(tactic| (k_here; (with_reducible show wpAny _ _ (call (Value.builtin _) [Value.ref _]) _ _ _); k_dflt (refine' max_L ?h ?F ?N ?m ?f ?z ?_; (case h => rfl); (case F => k_asm); (case N => k_asm); (case m => k_mem); (case f => assumption); (case z => assumption); k_whole; intro h9 t9 tk9 F9 N9)))
local macro_rules | `(tactic| walk_at "eval ListComp") => `(tactic| (k_here; k_dflt (refine' ListComp_K ?F ?c ?o ?k ?n ?x ?_ ?s; (case F => k_asm); (case c => with_unfolding_all rfl); (case x => rfl); (case o => exact ⟨fun _ => rfl, fun _ => rfl⟩); (case k => rfl); (case n => decide); (case s => (intro _; rfl)); k_whole)))
local macro_rules | `(tactic| walk_at "CompSrc") => `(tactic| (k_here; k_dflt (refine LCg.CompSrc.range (by rfl) (by k_asm) (by k_asm) (by assumption) (min8_small (by assumption)) (rangeSize_nat _ _) (by rw [sizeLine_eq]; exact min8_size (by assumption)) ?_); intro g9))
local macro_rules | `(tactic| walk_at "exec For Name Call cons nil") => `(tactic| (k_here; k_dflt (refine' For_RC _ ?k1 ?k2 ?k4 ?_ ?k5 ?k6; (case k1 => k_asm); (case k2 => rfl); (case k4 => rfl); (case k5 => (intro _; rfl)); (case k6 => passes_own); k_whole)))
theorem best_c (start plays : Int) (ts tp : Tok) (od : Addr) (nt : Nat) (o0 o1 : Int) (t0 t1 : Tok) (news : List (Addr × Obj)) :
    Cl w mean mg mb 238 4 40 [.int start ts, .int plays tp, .ref od] [] news
      ((od, tupOf (.int o0 t0) (.int o1 t1) nt) ∈ news ∧ 2 ≤ plays ∧ plays ≤ 4 ∧ 0 ≤ start ∧ start ≤ 8 ∧ 1 ≤ o0 ∧ o0 ≤ 5 ∧ 1 ≤ o1 ∧ o1 ≤ 5)
      (fun _ h₀ L h' v => (∃ t, v = Value.int ((bestF o0 o1 plays.toNat).getD start.toNat 0) t) ∧ News h₀ L h' news) := by
  dsimp only [Cl]
  rintro dp un gd cn cs a ccd cl outer A₀ base h₀ L m s Q E hB hF hX hN hT hcs ⟨ho, hp0, hp1, hs0, hs1, ho00, ho01, ho10, ho11⟩ hdp hun hret
  have cbI : CbIn 238 := CbIn.mk
  refine wpAny_call ?_
  k_dflt (refine' code_defC ?k1 ?k2 ?k3 ?k4 ?k5 ?kA ?kF ?kK ?k6 ?k7 ?k8 ?k9 ?kB ?kD ?_ ?c2 ?c3 ?c4; (case kA => exact rfl); (case kF => exact rfl); (case kK => assumption); (case k1 => k_asm); (case k2 => k_asm); (case k3 => k_asm); (case k4 => k_asm); (case k5 => k_asm); (case k6 => k_is); (case k7 => k_is); (case k8 => ktr_room); (case k9 => exact BindsTo.of_eq rfl); (case kB => exact rfl); (case kD => decide +kernel); (case c2 => exact rfl); (case c3 => exact rfl); (case c4 => exact rfl); k_whole; intro g' L' h' tk' cells' FG' F' N' Y' B' X' T' l1; (try k_lt l1); k_cells Y'; (try simp only [List.cons_append, List.nil_append] at N'); (try dsimp only); (try k_lift B'); (try k_fold))
  k_steps
  rename IsRange _ _ _ _ _ _ _ _ => R5
  rename Fr _ _ _ _ => F5
  rename News _ _ _ (_ :: _ :: _ :: news) => N5
  refine' ⟨_, plays.toNat, _, _, _, _, _, _, JB2 od _ _ _ start o0 o1 news, rfl, rfl, R5, ?bn, by omega, F5, N5, ⟨⟨_, by rfl⟩, _, _, _, _, rfl, by assumption, .cons _ _ (.cons _ _ (.cons _ _ (.cons _ _ (.cons _ _ (.cons _ _ (.cons _ _ (.cons _ _ (.cons _ _ .nil))))))))⟩, ?turn, ?fin⟩
  case bn => omega
  case fin =>
    rintro m' nw' h6 tk6 ⟨⟨t1, hs1⟩, l, o, vals, n, rfl, ho2, hvals⟩ F6 N6
    rw [fr_know hs1] at F6
    have hlen := bestF_len o0 o1 plays.toNat
    clear F5 N5 hs1
    k_steps
    rename News h₀ L _ (_ :: _ :: _ :: news) => N7
    exact hret _ _ _ (by assumption) ⟨⟨_, rfl⟩, news_mono N7 fun p hp => .tail _ (.tail _ (.tail _ hp))⟩
  case turn =>
    rintro I oI i ti m₁ nw₁ h6 tk6 hi ⟨⟨t1, hs1⟩, l, o, vals, n, rfl, ho2, hvals⟩ F6 N6 hnI
    rw [fr_know hs1] at F6
    clear F5 N5 hs1
    k_steps
    rename IsRange _ _ _ _ _ _ _ _ => R7
    rename Fr _ _ _ _ => F7
    rename News _ _ _ (_ :: _ :: _ :: _ :: news) => N7
    have hlen := bestF_len o0 o1 i
    have hbb := bestF_b ho00 ho01 ho10 ho11 i
    have h10 := ten_pow (n := i) (by omega)
    refine' ⟨_, 9, _, _, _, _, _, fun k => maxL (bestRow o0 o1 (bestF o0 o1 i) (k : Int)), rfl, rfl, R7, rfl, by decide, F7, N7, ?turnk, ?fink⟩
    case fink =>
      intro D ys h tk F8 N8 aD hys
      clear F7 N7
      dsimp only
      refine storeX_U F8 N8 rfl (.tail _ (.tail _ (.tail _ (.head _)))) ho2 rfl rfl ?_
      intro h9 o9 F9 N9 ho9
      k_steps
      have nc : ∀ p ∈ news, p.1 ≠ L' + 1 + 1 := fun p hp => Nat.ne_of_lt (Nat.lt_trans (l1 p hp) (Nat.lt_succ_of_lt (Nat.lt_succ_self _)))
      have nc1 : (L' + 1 : Addr) ≠ L' + 1 + 1 := Nat.ne_of_lt (Nat.lt_succ_self _)
      have nD : D ≠ L' + 1 + 1 := fun e => aD _ (.tail _ (.tail _ (.head _))) e.symm
      have nI : I ≠ L' + 1 + 1 := fun e => hnI _ (.tail _ (.head _)) e.symm
      refine TurnEnd.mk (nw' := (D, lst ys) :: (L' + 1 + 1, o9) :: (L' + 1, _) :: news) F9 (fun p hp => N9 p ?_) (fun p hp => ?_) ⟨⟨_, by rfl⟩, D, o9, ys.toArray, ys.length, rfl, ho9, hys⟩
      · rcases List.mem_cons.mp hp with rfl | hp
        · exact mem_upd_ne (.tail _ (.head _)) nI
        rcases List.mem_cons.mp hp with rfl | hp
        · exact mem_upd_ne (.head _) nD
        rcases List.mem_cons.mp hp with rfl | hp
        · exact mem_upd_self (.tail _ (.tail _ (.tail _ (.head _))))
        rcases List.mem_cons.mp hp with rfl | hp
        · exact mem_upd_ne (.tail _ (.tail _ (.tail _ (.tail _ (.head _))))) nc1
        · exact mem_upd_ne (.tail _ (.tail _ (.tail _ (.tail _ (.tail _ hp))))) (nc p hp)
      · rcases List.mem_cons.mp hp with rfl | hp
        · exact fun e => aD _ (.head _) e.symm
        rcases List.mem_cons.mp hp with rfl | hp
        · exact hnI (_, o) (.tail _ (.head _))
        · exact hnI p (.tail _ (.tail _ hp))
    case turnk =>
      intro i2 t I2 oI2 C oC K oK D ys h8 tk8 E' hi2 hoK F8 N8
      clear F7 N7
      dsimp only
      k_steps
      have hmin : (if 8 - (i2 : Int) < (i2 : Int) then 8 - (i2 : Int) else (i2 : Int)) ≤ (i2 : Int) ∧ (if 8 - (i2 : Int) < (i2 : Int) then 8 - (i2 : Int) else (i2 : Int)) ≤ 8 - (i2 : Int) ∧ 0 ≤ (if 8 - (i2 : Int) < (i2 : Int) then 8 - (i2 : Int) else (i2 : Int)) := min8_le hi2
      obtain ⟨hm1, hm2, hm3⟩ := hmin
      have hrl : (bestRow o0 o1 (bestF o0 o1 i) (i2 : Int)).length = ((if 8 - (i2 : Int) < (i2 : Int) then 8 - (i2 : Int) else (i2 : Int)) + 1 - 0).toNat := by
        rw [bestRow, List.length_map, List.length_range, Int.sub_zero]
      generalize hnq : ((I2, oI2) :: _ : List (Addr × Obj)) = nwq
      refine rest_ind (bestRow o0 o1 (bestF o0 o1 i) (i2 : Int)).length (fun j ys3 nw3 => nw3 = nwq ∧ IntsAre ys3 ((bestRow o0 o1 (bestF o0 o1 i) (i2 : Int)).take j)) ?_ ?_ _ 0 [] nwq (by rw [hrl]; exact Nat.zero_add _) ⟨rfl, .nil⟩
      · rintro j ys3 nw3 hj ⟨rfl, hys3⟩ v I3 oI3 C3 oC3 D3 m3 h9 tk9 E9 ⟨t3, rfl⟩ hC3 hx3 F9 N9 off9 ne9
        replace ne9 := hold_back ne9
        rw [Int.zero_add] at hx3
        rw [hrl] at hj
        obtain ⟨hA0, hA1⟩ := hbb ((i2 : Int) + (j : Int)).toNat
        obtain ⟨hB0, hB1⟩ := hbb ((i2 : Int) - (j : Int)).toNat
        have hrow : (bestRow o0 o1 (bestF o0 o1 i) (i2 : Int))[j]? = some (o0 * (bestF o0 o1 i).getD ((i2 : Int) + (j : Int)).toNat 0 + o1 * (bestF o0 o1 i).getD ((i2 : Int) - (j : Int)).toNat 0) := by
          rw [bestRow, List.getElem?_map, List.getElem?_range (by rw [← Int.sub_zero (_ + 1)]; exact hj)]
          rfl
        rw [Int.sub_zero] at hj
        have hjm := Int.lt_add_one_iff.mp (Int.lt_toNat.mp hj)
        have hj1 := Int.le_trans hjm hm1
        have hj2 := Int.le_trans hjm hm2
        subst hnq
        clear hbb hj hm1 hm2 hm3 hjm
        k_steps
        refine LCg.CompEnd.intro (by assumption) (by assumption) _ (fun _ h => h) off9 trivial ⟨rfl, ?_⟩
        rw [List.take_add_one, hrow]
        exact intsAre_snoc hys3 _ _
      rintro ys3 nw3 ⟨rfl, hys3⟩
      rw [List.take_of_length_le (Nat.le_refl _)] at hys3
      have hne : 0 < (bestRow o0 o1 (bestF o0 o1 i) (i2 : Int)).length := by rw [hrl, Int.sub_zero]; exact Int.lt_toNat.mpr (Int.lt_add_one_iff.mpr hm3)
      subst hnq
      clear hbb
      k_steps
      all_goals first | assumption | (rename News _ _ _ (_ :: (I2, oI2) :: _) => N12; exact news_mono N12 fun p hp => .tail _ hp)
end
end Mine

end
section
open PySem PySem.W PyProof.Rows PySem.Spec PySem.Calls PySem.Flt
set_option Elab.async false
set_option maxRecDepth 100000
namespace Mine
theorem dedup_sub : ∀ (l acc : List Int) (x : Int), x ∈ dedup acc l → x ∈ acc ∨ x ∈ l
  | [], acc, x, h => .inl h
  | y :: r, acc, x, h => by
    unfold dedup at h
    rcases dedup_sub r _ x h with h | h
    · split at h
      · exact .inl h
      · rcases List.mem_cons.mp h with rfl | h
        · exact .inr (.head _)
        · exact .inl h
    · exact .inr (.tail _ h)
theorem dedup_len : ∀ (l acc : List Int), (dedup acc l).length ≤ acc.length + l.length
  | [], acc => Nat.le_refl _
  | y :: r, acc => by
    unfold dedup
    refine Nat.le_trans (dedup_len r _) ?_
    rw [List.length_cons]
    split
    · omega
    · rw [List.length_cons]; omega
theorem sset_sub {l : List Int} {x : Int} (h : x ∈ sset l) : x ∈ l := by
  have := dedup_sub l [] x ((isort_perm _).mem_iff.mp h)
  rcases this with h | h
  · cases h
  · exact h
theorem ssetN_len (l : List Int) : (sset l).length ≤ l.length := by
  have := dedup_len l []
  have e := (isort_perm (dedup [] l)).length_eq
  unfold sset
  rw [e]
  simpa using this
structure TB (T : List Ent) (n : Nat) (B : Int) : Prop where
  len : T.length ≤ n
  rng : ∀ e ∈ T, 0 ≤ e.1 ∧ e.1 ≤ 2048
  crd : ∀ e ∈ T, 0 ≤ e.2.2 ∧ e.2.2 ≤ B
theorem sum_b {B : Int} (hB : 0 ≤ B) : ∀ (l : List Int), (∀ c ∈ l, 0 ≤ c ∧ c ≤ B) → 0 ≤ l.sum ∧ l.sum ≤ l.length * B
  | [], _ => by simp
  | c :: r, h => by
    obtain ⟨a, b⟩ := sum_b hB r fun x hx => h x (.tail _ hx)
    obtain ⟨d, e⟩ := h c (.head _)
    rw [List.sum_cons, List.length_cons]
    exact ⟨Int.add_nonneg d a, by rw [Int.natCast_succ, Int.add_mul, Int.one_mul, Int.add_comm]; exact Int.add_le_add b e⟩
theorem stake_b {p z : Int} (h0 : 0 ≤ p) (h1 : p ≤ 2048) (hz : 1 ≤ z) : 0 ≤ p - min p (2048 - p) / z ∧ p + min p (2048 - p) / z ≤ 2048 ∧ 0 ≤ min p (2048 - p) / z := by
  have hm : 0 ≤ min p (2048 - p) := Int.le_min.mpr ⟨h0, Int.sub_nonneg_of_le h1⟩
  have a := Int.ediv_nonneg hm (Int.le_trans (by decide) hz)
  have b : min p (2048 - p) / z ≤ min p (2048 - p) := Int.ediv_le_self z hm
  exact ⟨Int.sub_nonneg_of_le (Int.le_trans b (Int.min_le_left _ _)), Int.add_le_of_le_sub_left (Int.le_trans b (Int.min_le_right _ _)), a⟩
theorem TB.step {T : List Ent} {n : Nat} {B o0 o1 z : Int} (h : TB T n B) (hB : 0 ≤ B) (hz : 1 ≤ z) (a0 : 1 ≤ o0) (a1 : o0 ≤ 5) (b0 : 1 ≤ o1) (b1 : o1 ≤ 5) : TB (turnT o0 o1 z T) (2 * n) (n * B * 5) := by
  have hc : ∀ p, 0 ≤ crowdOf T p ∧ crowdOf T p ≤ n * B := fun p => by
    unfold crowdOf
    obtain ⟨a, b⟩ := sum_b hB (((T.filter fun e => e.1 == p).map (·.2.2))) fun c hc => by
      obtain ⟨e, he, rfl⟩ := List.mem_map.mp hc
      exact h.crd e (List.mem_filter.mp he).1
    refine ⟨a, Int.le_trans b ?_⟩
    have l1 : ((T.filter fun e => e.1 == p).map (·.2.2)).length ≤ n := by
      rw [List.length_map]
      exact Nat.le_trans (List.length_filter_le _ _) h.len
    exact Int.mul_le_mul_of_nonneg_right (by omega) hB
  refine ⟨?_, ?_, ?_⟩
  · unfold turnT
    rw [List.length_flatMap]
    have : ((sset (pursesT T)).map fun a => (playT o0 o1 z T a).length) = (sset (pursesT T)).map fun _ => 2 := List.map_congr_left fun _ _ => rfl
    rw [this, List.map_const', List.sum_replicate_nat]
    have e := ssetN_len (pursesT T)
    have e2 : (pursesT T).length = T.length := List.length_map _
    have := h.len
    omega
  · intro e he
    obtain ⟨p, hp, he⟩ := List.mem_flatMap.mp he
    have hp := sset_sub hp
    obtain ⟨e', he', rfl⟩ := List.mem_map.mp hp
    obtain ⟨r0, r1⟩ := h.rng _ he'
    obtain ⟨s0, s1, s2⟩ := stake_b r0 r1 hz
    unfold playT at he
    simp only [List.mem_cons, List.not_mem_nil, or_false] at he
    rcases he with rfl | rfl <;> dsimp only
    · exact ⟨Int.add_nonneg r0 s2, s1⟩
    · exact ⟨s0, Int.le_trans (Int.sub_le_self _ s2) r1⟩
  · intro e he
    obtain ⟨p, hp, he⟩ := List.mem_flatMap.mp he
    obtain ⟨c0, c1⟩ := hc p
    unfold playT at he
    simp only [List.mem_cons, List.not_mem_nil, or_false] at he
    rcases he with rfl | rfl <;> dsimp only
    · refine ⟨Int.mul_nonneg c0 (by omega), Int.mul_le_mul c1 a1 (by omega) (by omega)⟩
    · refine ⟨Int.mul_nonneg c0 (by omega), Int.mul_le_mul c1 b1 (by omega) (by omega)⟩
noncomputable def runT (o0 o1 start : Int) (zs : List Int) : Nat → List Ent
  | 0 => [(start, true, 1)]
  | k + 1 => turnT o0 o1 (zs.getD k 1) (runT o0 o1 start zs k)
theorem runT_ok {o0 o1 start : Int} {zs : List Int} (h0 : 0 ≤ start) (h1 : start ≤ 2048) (hz : ∀ k, 1 ≤ zs.getD k 1) (a0 : 1 ≤ o0) (a1 : o0 ≤ 5) (b0 : 1 ≤ o1) (b1 : o1 ≤ 5) : ∀ k ≤ 4, TOk (runT o0 o1 start zs k) := by
  have t0 : TB (runT o0 o1 start zs 0) 1 1 := ⟨Nat.le_refl _, fun e he => by obtain rfl := List.mem_singleton.mp he; exact ⟨h0, h1⟩, fun e he => by obtain rfl := List.mem_singleton.mp he; exact ⟨by dsimp only; omega, by dsimp only; omega⟩⟩
  have t1 : TB (runT o0 o1 start zs 1) 2 5 := t0.step (by omega) (hz 0) a0 a1 b0 b1
  have t2 : TB (runT o0 o1 start zs 2) 4 50 := t1.step (by omega) (hz 1) a0 a1 b0 b1
  have t3 : TB (runT o0 o1 start zs 3) 8 1000 := t2.step (by omega) (hz 2) a0 a1 b0 b1
  have t4 : TB (runT o0 o1 start zs 4) 16 40000 := t3.step (by omega) (hz 3) a0 a1 b0 b1
  have go : ∀ {T n B}, TB T n B → n ≤ 32 → B ≤ 1000000 → TOk T := fun h hn hB => ⟨Nat.le_trans h.len hn, h.rng, fun e he => ⟨(h.crd e he).1, Int.le_trans (h.crd e he).2 hB⟩⟩
  intro k hk
  have : k = 0 ∨ k = 1 ∨ k = 2 ∨ k = 3 ∨ k = 4 := (by decide : ∀ k, k < 5 → (k = 0 ∨ k = 1 ∨ k = 2 ∨ k = 3 ∨ k = 4)) k (Nat.lt_succ_of_le hk)
  rcases this with rfl | rfl | rfl | rfl | rfl
  · exact go t0 (by decide) (by decide)
  · exact go t1 (by decide) (by decide)
  · exact go t2 (by decide) (by decide)
  · exact go t3 (by decide) (by decide)
  · exact go t4 (by decide) (by decide)
/-- the purses alone: no odds -/
noncomputable def playP (z p : Int) : List Int := [p + min p (2048 - p) / z, p - min p (2048 - p) / z]
noncomputable def runP (start : Int) (zs : List Int) : Nat → List Int
  | 0 => [start]
  | k + 1 => (sset (runP start zs k)).flatMap (playP (zs.getD k 1))
theorem runT_P (o0 o1 start : Int) (zs : List Int) : ∀ k, pursesT (runT o0 o1 start zs k) = runP start zs k
  | 0 => rfl
  | k + 1 => by
    rw [runP, ← runT_P o0 o1 start zs k, runT, turnT, pursesT, List.map_flatMap]
    rfl
end Mine

end
section
open PySem PySem.W PyProof.Rows PySem.Spec PySem.Calls PySem.Flt
set_option Elab.async false
set_option maxRecDepth 100000
set_option maxHeartbeats 8000000
namespace Mine
noncomputable def zsOf (sh : Nat) (f s : Int) (plays : Nat) : List Int := (match sh with | 0 => [f, s, s, s] | 1 => [f, s] | 2 => [f] | _ => [f, f, f, f]).take plays
noncomputable def rulOf (sh : Nat) (f s : Int) : List Int := match sh with | 0 => [f, s, 0] | 1 => [f, s] | 2 => [f, 127, s] | _ => [f, 0, s]
noncomputable def sevens : List Int := [1, 2, 3, 4, 5, 6, 7]
noncomputable def oddsL : List (Int × Int) := [(1, 1), (1, 2), (1, 3), (2, 2), (2, 3), (2, 4), (3, 3), (3, 4), (3, 5)]
noncomputable def same2 (a b : List (Int × Int)) : Bool := a.length == b.length && a.all fun e => hasZ b e.1 && getZ b e.1 == e.2
noncomputable def chkA (zs : List Int) (plays : Nat) (s o0 o1 : Int) : Bool :=
  same2 (crowdsZ ((o0 + o1) ^ (plays - zs.length)) (runT o0 o1 (256 * s) zs zs.length)) (histZ zs o0 o1 (256 * s) ((o0 + o1) ^ (plays - zs.length)) (2 ^ zs.length)) &&
  decide (getZ (crowdsZ ((o0 + o1) ^ (plays - zs.length)) (runT o0 o1 (256 * s) zs zs.length)) 2048 ≤ (figF s plays o0 o1 (min plays 3)).1)
noncomputable def chkAll (zs : List Int) (plays : Nat) : Bool := sevens.all fun s => oddsL.all fun o => chkA zs plays s o.1 o.2
noncomputable def chkB (plays : Nat) (s o0 o1 : Int) : Bool :=
  (getZ (crowdsZ 1 (runT o0 o1 (256 * s) (List.replicate plays 1) plays)) 2048 == (figF s plays o0 o1 (min plays 3)).1) && ((bestF o0 o1 plays).getD s.toNat 0 == (figF s plays o0 o1 (min plays 3)).1)
noncomputable def setChk (zs : List Int) : Bool := sevens.all fun s => setOK (runP (256 * s) zs zs.length)

noncomputable def e4_0 : List (List Int × Nat) := [([1, 1], 2), ([1, 1, 1], 3), ([1, 1, 1, 1], 4)]
theorem ck_0 : (e4_0.all fun e => chkAll e.1 e.2) = true := by decide +kernel
noncomputable def e4_1 : List (List Int × Nat) := [([1, 1], 3), ([1, 1], 4), ([1], 2)]
theorem ck_1 : (e4_1.all fun e => chkAll e.1 e.2) = true := by decide +kernel
noncomputable def e4_2 : List (List Int × Nat) := [([1], 3), ([1], 4), ([1, 2], 2)]
theorem ck_2 : (e4_2.all fun e => chkAll e.1 e.2) = true := by decide +kernel
noncomputable def e4_3 : List (List Int × Nat) := [([1, 2, 2], 3), ([1, 2, 2, 2], 4), ([1, 2], 3)]
theorem ck_3 : (e4_3.all fun e => chkAll e.1 e.2) = true := by decide +kernel
noncomputable def e4_4 : List (List Int × Nat) := [([1, 2], 4), ([1, 4], 2), ([1, 4, 4], 3)]
theorem ck_4 : (e4_4.all fun e => chkAll e.1 e.2) = true := by decide +kernel
noncomputable def e4_5 : List (List Int × Nat) := [([1, 4, 4, 4], 4), ([1, 4], 3), ([1, 4], 4)]
theorem ck_5 : (e4_5.all fun e => chkAll e.1 e.2) = true := by decide +kernel
noncomputable def e4_6 : List (List Int × Nat) := [([2, 1], 2), ([2, 1, 1], 3), ([2, 1, 1, 1], 4)]
theorem ck_6 : (e4_6.all fun e => chkAll e.1 e.2) = true := by decide +kernel
noncomputable def e4_7 : List (List Int × Nat) := [([2, 1], 3), ([2, 1], 4), ([2], 2)]
theorem ck_7 : (e4_7.all fun e => chkAll e.1 e.2) = true := by decide +kernel
noncomputable def e4_8 : List (List Int × Nat) := [([2], 3), ([2], 4), ([2, 2], 2)]
theorem ck_8 : (e4_8.all fun e => chkAll e.1 e.2) = true := by decide +kernel
noncomputable def e4_9 : List (List Int × Nat) := [([2, 2, 2], 3), ([2, 2, 2, 2], 4), ([2, 2], 3)]
theorem ck_9 : (e4_9.all fun e => chkAll e.1 e.2) = true := by decide +kernel
noncomputable def e4_10 : List (List Int × Nat) := [([2, 2], 4), ([2, 4], 2), ([2, 4, 4], 3)]
theorem ck_10 : (e4_10.all fun e => chkAll e.1 e.2) = true := by decide +kernel
noncomputable def e4_11 : List (List Int × Nat) := [([2, 4, 4, 4], 4), ([2, 4], 3), ([2, 4], 4)]
theorem ck_11 : (e4_11.all fun e => chkAll e.1 e.2) = true := by decide +kernel
noncomputable def e4_12 : List (List Int × Nat) := [([4, 1], 2), ([4, 1, 1], 3), ([4, 1, 1, 1], 4)]
theorem ck_12 : (e4_12.all fun e => chkAll e.1 e.2) = true := by decide +kernel
noncomputable def e4_13 : List (List Int × Nat) := [([4, 1], 3), ([4, 1], 4), ([4], 2)]
theorem ck_13 : (e4_13.all fun e => chkAll e.1 e.2) = true := by decide +kernel
noncomputable def e4_14 : List (List Int × Nat) := [([4], 3), ([4], 4), ([4, 4], 2)]
theorem ck_14 : (e4_14.all fun e => chkAll e.1 e.2) = true := by decide +kernel
noncomputable def e4_15 : List (List Int × Nat) := [([4, 4, 4], 3), ([4, 4, 4, 4], 4), ([4, 2], 2)]
theorem ck_15 : (e4_15.all fun e => chkAll e.1 e.2) = true := by decide +kernel
noncomputable def e4_16 : List (List Int × Nat) := [([4, 2, 2], 3), ([4, 2, 2, 2], 4), ([4, 2], 3)]
theorem ck_16 : (e4_16.all fun e => chkAll e.1 e.2) = true := by decide +kernel
noncomputable def e4_17 : List (List Int × Nat) := [([4, 2], 4), ([4, 4], 3), ([4, 4], 4)]
theorem ck_17 : (e4_17.all fun e => chkAll e.1 e.2) = true := by decide +kernel
noncomputable def E4L : List (List Int × Nat) := e4_0 ++ (e4_1 ++ (e4_2 ++ (e4_3 ++ (e4_4 ++ (e4_5 ++ (e4_6 ++ (e4_7 ++ (e4_8 ++ (e4_9 ++ (e4_10 ++ (e4_11 ++ (e4_12 ++ (e4_13 ++ (e4_14 ++ (e4_15 ++ (e4_16 ++ (e4_17)))))))))))))))))
theorem cb_2 : (sevens.all fun s => oddsL.all fun o => chkB 2 s o.1 o.2) = true := by decide +kernel
theorem cb_3 : (sevens.all fun s => oddsL.all fun o => chkB 3 s o.1 o.2) = true := by decide +kernel
theorem cb_4 : (sevens.all fun s => oddsL.all fun o => chkB 4 s o.1 o.2) = true := by decide +kernel
noncomputable def pf_0 : List (List Int) := [[], [1], [2], [4]]
theorem st_0 : (pf_0.all setChk) = true := by decide +kernel
noncomputable def pf_1 : List (List Int) := [[1, 1], [1, 2], [1, 4], [2, 1]]
theorem st_1 : (pf_1.all setChk) = true := by decide +kernel
noncomputable def pf_2 : List (List Int) := [[2, 2], [2, 4], [4, 1], [4, 2]]
theorem st_2 : (pf_2.all setChk) = true := by decide +kernel
noncomputable def pf_3 : List (List Int) := [[4, 4], [1, 1, 1], [1, 2, 2], [1, 4, 4]]
theorem st_3 : (pf_3.all setChk) = true := by decide +kernel
noncomputable def pf_4 : List (List Int) := [[2, 1, 1], [2, 2, 2], [2, 4, 4], [4, 1, 1]]
theorem st_4 : (pf_4.all setChk) = true := by decide +kernel
noncomputable def pf_5 : List (List Int) := [[4, 2, 2], [4, 4, 4]]
theorem st_5 : (pf_5.all setChk) = true := by decide +kernel
noncomputable def prefL : List (List Int) := pf_0 ++ (pf_1 ++ (pf_2 ++ (pf_3 ++ (pf_4 ++ (pf_5)))))
end Mine

end
section
open PySem PySem.W PyProof.Rows PySem.Spec PySem.Calls PySem.Flt
set_option Elab.async false
set_option maxRecDepth 100000
set_option maxHeartbeats 8000000
namespace Mine
/-- the hue: a of 1 .. 5, b of 0 .. 4 -/
noncomputable def hueF (a b : Int) : UInt64 := Float64.sub (Float64.add (dvF a 32) (Float64.ofInt b)) (Float64.ofInt 2)
noncomputable def hueOK (h f : UInt64) : Bool :=
  (Float64.divmod h 4607182418800017408).2 == f && (Float64.cmp f 4595172819793696085 == some Ordering.lt) &&
  !(Float64.cmp (Float64.divmod (Float64.add h 4599676419421066581) 4607182418800017408).2 4595172819793696085 == some Ordering.lt) &&
  (Float64.cmp (Float64.divmod (Float64.add h 4599676419421066581) 4607182418800017408).2 4602678819172646912 == some Ordering.lt) &&
  !(Float64.cmp (Float64.divmod (Float64.sub h 4599676419421066581) 4607182418800017408).2 4595172819793696085 == some Ordering.lt) &&
  !(Float64.cmp (Float64.divmod (Float64.sub h 4599676419421066581) 4607182418800017408).2 4602678819172646912 == some Ordering.lt) &&
  !(Float64.cmp (Float64.divmod (Float64.sub h 4599676419421066581) 4607182418800017408).2 4604180019048437077 == some Ordering.lt)
theorem hue_all : ([1, 2, 3, 4, 5].all fun a => [0, 1, 2, 3, 4].all fun b => hueOK (hueF a b) (dvF a 32)) = true := by decide +kernel
noncomputable def midF (a b f : UInt64) : UInt64 := Float64.add a (Float64.mul (Float64.mul (Float64.sub b a) f) 4618441417868443648)
noncomputable def pairOK (p z : Int) : Bool :=
  let m1 := m1F (dvF p 2048) (dvF 1 z)
  let m2 := m2F (dvF p 2048) (dvF 1 z)
  Float64.isFinite (Float64.mul m2 (Float64.ofInt 2048)) && toInt Float64.truncOf (Float64.mul m2 (Float64.ofInt 2048)) == p + min p (2048 - p) / z &&
  (Float64.isFinite (Float64.mul m1 (Float64.ofInt 2048)) && toInt Float64.truncOf (Float64.mul m1 (Float64.ofInt 2048)) == p - min p (2048 - p) / z) &&
  [1, 2, 3, 4, 5].all fun a => maxOfBits [m2, midF m1 m2 (dvF a 32), m1] == m2 && minOfBits [m2, midF m1 m2 (dvF a 32), m1] == m1
theorem light_of {a b p z : Int} (ha : a ∈ [1, 2, 3, 4, 5]) (hb : b ∈ [0, 1, 2, 3, 4]) (h0 : 0 ≤ p) (h1 : p ≤ 2048) (hz : z ∈ [1, 2, 4]) (hp : pairOK p z = true) : LightOK (hueF a b) p z := by
  have hh := List.all_eq_true.mp (List.all_eq_true.mp hue_all a ha) b hb
  unfold hueOK at hh
  simp only [Bool.and_eq_true, Bool.not_eq_true', beq_iff_eq] at hh
  obtain ⟨⟨⟨⟨⟨⟨e, g1⟩, r1⟩, r2⟩, b1⟩, b2⟩, b3⟩ := hh
  have eR : rF (hueF a b) (dvF p 2048) (dvF 1 z) = m2F (dvF p 2048) (dvF 1 z) := by
    unfold rF vF
    rw [if_neg (by rw [r1]; decide), if_pos (by rw [r2]; decide)]
  have eB : bF (hueF a b) (dvF p 2048) (dvF 1 z) = m1F (dvF p 2048) (dvF 1 z) := by
    unfold bF vF
    rw [if_neg (by rw [b1]; decide), if_neg (by rw [b2]; decide), if_neg (by rw [b3]; decide)]
  have eG : gF (hueF a b) (dvF p 2048) (dvF 1 z) = midF (m1F (dvF p 2048) (dvF 1 z)) (m2F (dvF p 2048) (dvF 1 z)) (dvF a 32) := by
    unfold gF vF
    rw [e, if_pos (by rw [g1]; decide)]
    rfl
  unfold pairOK at hp
  simp only [Bool.and_eq_true, beq_iff_eq] at hp
  obtain ⟨⟨⟨f2, v2⟩, f1, v1⟩, hall⟩ := hp
  have hm := List.all_eq_true.mp hall a ha
  simp only [Bool.and_eq_true, beq_iff_eq] at hm
  have hz1 : 1 ≤ z := (by decide : ∀ x ∈ [(1 : Int), 2, 4], 1 ≤ x) z hz
  obtain ⟨s0, s1, s2⟩ := stake_b h0 h1 hz1
  refine ⟨fun e => absurd (e ▸ hz1) (by decide), ?_, ?_, ?_, ?_, ?_, ⟨Int.add_nonneg h0 s2, s1⟩, ⟨s0, Int.le_trans (Int.sub_le_self _ s2) h1⟩⟩
  · simp only [List.mem_cons, List.not_mem_nil, or_false] at hz
    rcases hz with rfl | rfl | rfl <;> decide +kernel
  · rw [eR, eG, eB, hm.1]; exact f2
  · rw [eR, eG, eB, hm.1]; exact v2
  · rw [eR, eG, eB, hm.2]; exact f1
  · rw [eR, eG, eB, hm.2]; exact v1

noncomputable def lst1_0 : List Int := [0, 128, 192, 256, 320, 384, 512, 576, 640, 768, 896, 960, 1024, 1088, 1152, 1280, 1408, 1472, 1536, 1664, 1728, 1792, 1856, 1920]
theorem pr1_0 : (lst1_0.all fun p => pairOK p 1) = true := by decide +kernel
noncomputable def lst1_1 : List Int := [2048]
theorem pr1_1 : (lst1_1.all fun p => pairOK p 1) = true := by decide +kernel
noncomputable def reach1 : List Int := lst1_0 ++ lst1_1
theorem reach1_ok : (reach1.all fun p => pairOK p 1) = true := by unfold reach1; simp only [List.all_append, Bool.and_eq_true]; exact ⟨pr1_0, pr1_1⟩
noncomputable def lst2_0 : List Int := [0, 32, 48, 64, 80, 96, 128, 144, 160, 192, 224, 240, 256, 288, 304, 320, 352, 384, 432, 448, 480, 512, 576, 608]
theorem pr2_0 : (lst2_0.all fun p => pairOK p 2) = true := by decide +kernel
noncomputable def lst2_1 : List Int := [640, 672, 704, 720, 752, 768, 864, 896, 912, 960, 992, 1024, 1056, 1088, 1136, 1152, 1184, 1280, 1296, 1328, 1344, 1376, 1408, 1440]
theorem pr2_1 : (lst2_1.all fun p => pairOK p 2) = true := by decide +kernel
noncomputable def lst2_2 : List Int := [1472, 1536, 1568, 1600, 1616, 1664, 1696, 1728, 1744, 1760, 1792, 1808, 1824, 1856, 1888, 1904, 1920, 1952, 1968, 1984, 2000, 2016, 2048]
theorem pr2_2 : (lst2_2.all fun p => pairOK p 2) = true := by decide +kernel
noncomputable def reach2 : List Int := lst2_0 ++ lst2_1 ++ lst2_2
theorem reach2_ok : (reach2.all fun p => pairOK p 2) = true := by unfold reach2; simp only [List.all_append, Bool.and_eq_true]; exact ⟨⟨pr2_0, pr2_1⟩, pr2_2⟩
noncomputable def lst4_0 : List Int := [0, 72, 96, 108, 120, 128, 144, 160, 180, 192, 200, 216, 240, 256, 288, 300, 320, 324, 360, 384, 400, 432, 480, 500]
theorem pr4_0 : (lst4_0.all fun p => pairOK p 4) = true := by decide +kernel
noncomputable def lst4_1 : List Int := [504, 512, 540, 576, 600, 636, 640, 672, 696, 720, 768, 800, 840, 848, 888, 896, 900, 928, 960, 988, 1000, 1024, 1048, 1060]
theorem pr4_1 : (lst4_1.all fun p => pairOK p 4) = true := by decide +kernel
noncomputable def lst4_2 : List Int := [1088, 1120, 1148, 1152, 1160, 1200, 1208, 1248, 1280, 1328, 1352, 1376, 1408, 1412, 1448, 1472, 1508, 1536, 1544, 1548, 1568, 1616, 1648, 1664]
theorem pr4_2 : (lst4_2.all fun p => pairOK p 4) = true := by decide +kernel
noncomputable def lst4_3 : List Int := [1688, 1724, 1728, 1748, 1760, 1792, 1808, 1832, 1848, 1856, 1868, 1888, 1904, 1920, 1928, 1940, 1952, 1976, 2048]
theorem pr4_3 : (lst4_3.all fun p => pairOK p 4) = true := by decide +kernel
noncomputable def reach4 : List Int := lst4_0 ++ lst4_1 ++ lst4_2 ++ lst4_3
theorem reach4_ok : (reach4.all fun p => pairOK p 4) = true := by unfold reach4; simp only [List.all_append, Bool.and_eq_true]; exact ⟨⟨⟨pr4_0, pr4_1⟩, pr4_2⟩, pr4_3⟩
noncomputable def reachOf (z : Int) : List Int := if z = 1 then reach1 else if z = 2 then reach2 else reach4
theorem reachOf_ok {p z : Int} (hz : z ∈ [1, 2, 4]) (hp : p ∈ reachOf z) : pairOK p z = true := by
  simp only [List.mem_cons, List.not_mem_nil, or_false] at hz
  rcases hz with rfl | rfl | rfl
  · exact List.all_eq_true.mp reach1_ok p hp
  · exact List.all_eq_true.mp reach2_ok p hp
  · exact List.all_eq_true.mp reach4_ok p hp
noncomputable def nextOf (zs : List Int) : List Int := match zs with | [] => [1, 2, 4] | [_] => [1, 2, 4] | _ :: b :: _ => [b]
theorem inReach : (prefL.all fun zs => sevens.all fun s => (runP (256 * s) zs zs.length).all fun p => (nextOf zs).all fun z => (reachOf z).contains p) = true := by decide +kernel
end Mine

end
section
open PySem PySem.W PyProof.Rows PySem.Spec PySem.Calls PySem.Flt
set_option Elab.async false
set_option maxRecDepth 100000
set_option maxHeartbeats 8000000
namespace Mine
theorem combo : ([0, 1, 2, 3].all fun sh => [1, 2, 4].all fun f => [1, 2, 4].all fun s => [2, 3, 4].all fun pl => E4L.contains (zsOf sh f s pl, pl)) = true := by decide +kernel
theorem all_put {α : Type} {f : α → Bool} {l r : List α} (h : l.all f = true) (t : r.all f = true) : (l ++ r).all f = true := by rw [List.all_append, h, t]; rfl
theorem chk_all : (E4L.all fun e => chkAll e.1 e.2) = true :=
  all_put ck_0 (all_put ck_1 (all_put ck_2 (all_put ck_3 (all_put ck_4 (all_put ck_5 (all_put ck_6 (all_put ck_7 (all_put ck_8 (all_put ck_9 (all_put ck_10 (all_put ck_11 (all_put ck_12 (all_put ck_13 (all_put ck_14 (all_put ck_15 (all_put ck_16 (ck_17)))))))))))))))))
theorem chk_mem : ∀ e ∈ E4L, chkAll e.1 e.2 = true := fun e he => List.all_eq_true.mp chk_all e he
theorem set_all : (prefL.all setChk) = true :=
  all_put st_0 (all_put st_1 (all_put st_2 (all_put st_3 (all_put st_4 (st_5)))))
theorem set_mem : ∀ e ∈ prefL, setChk e = true := fun e he => List.all_eq_true.mp set_all e he
/-- what a play of the ruler asks -/
noncomputable def nextChk (ns zs : List Int) (plays : Nat) : Bool :=
  decide (ns[0]? ≠ some 0) && decide (zs.length ≤ plays) && ((List.range zs.length).all fun k => match (stK ns k).next ns with | some (x, _) => x == zs.getD k 1 | none => false) &&
  (decide (zs.length = plays) || match (stK ns zs.length).next ns with | some _ => false | none => true)
noncomputable def prefChk (zs : List Int) : Bool := zs.length ≤ 4 && (List.range zs.length).all fun k => prefL.contains (zs.take k) && (nextOf (zs.take k)).contains (zs.getD k 1) && [1, 2, 4].contains (zs.getD k 1)
theorem next_all : ([0, 1, 2, 3].all fun sh => [1, 2, 4].all fun f => [1, 2, 4].all fun s => [2, 3, 4].all fun pl => nextChk (rulOf sh f s) (zsOf sh f s pl) pl) = true := by decide +kernel
theorem next_bold : ([2, 3, 4].all fun pl => nextChk [1, 0] (List.replicate pl 1) pl) = true := by decide +kernel
theorem pref_all : (E4L.all fun e => prefChk e.1) = true := by decide +kernel
theorem bold_mem : ([2, 3, 4].all fun pl => E4L.contains (List.replicate pl 1, pl)) = true := by decide +kernel
structure BookOK (ns zs : List Int) (plays : Nat) (o0 o1 start : Int) (hue : UInt64) : Prop where
  first : ns[0]? ≠ some 0
  le : zs.length ≤ plays
  four : zs.length ≤ 4
  next : ∀ k, k < zs.length → (stK ns k).next ns = some (zs.getD k 1, stK ns (k + 1))
  last : zs.length = plays ∨ (stK ns zs.length).next ns = none
  tok : ∀ k, k ≤ zs.length → TOk (runT o0 o1 start zs k)
  sets : ∀ k, k < zs.length → setOK (pursesT (runT o0 o1 start zs k)) = true
  light : ∀ k, k < zs.length → ∀ p ∈ pursesT (runT o0 o1 start zs k), LightOK hue p (zs.getD k 1)
theorem runP_take (start : Int) (zs : List Int) : ∀ k, ∀ n, k ≤ n → runP start (zs.take n) k = runP start zs k
  | 0, _, _ => rfl
  | k + 1, n, h => by
    rw [runP, runP, runP_take start zs k n (by omega), List.getD_eq_getElem?_getD, List.getD_eq_getElem?_getD, List.getElem?_take_of_lt (by omega)]
theorem book_ok {ns zs : List Int} {plays : Nat} {o0 o1 s a b : Int} (hn : nextChk ns zs plays = true) (hm : (zs, plays) ∈ E4L) (hs : s ∈ sevens) (ha : a ∈ [1, 2, 3, 4, 5]) (hb : b ∈ [0, 1, 2, 3, 4]) (a0 : 1 ≤ o0) (a1 : o0 ≤ 5) (b0 : 1 ≤ o1) (b1 : o1 ≤ 5) :
    BookOK ns zs plays o0 o1 (256 * s) (hueF a b) := by
  have hp := List.all_eq_true.mp pref_all _ hm
  unfold prefChk at hp
  simp only [Bool.and_eq_true, decide_eq_true_eq, List.all_eq_true, List.mem_range, List.contains_iff_mem] at hp
  obtain ⟨h4, hp⟩ := hp
  unfold nextChk at hn
  simp only [Bool.and_eq_true, decide_eq_true_eq, List.all_eq_true, List.mem_range, Bool.or_eq_true] at hn
  obtain ⟨⟨⟨n0, n1⟩, n2⟩, n3⟩ := hn
  have hs' : 0 ≤ 256 * s ∧ 256 * s ≤ 2048 := (show ∀ x ∈ sevens, 0 ≤ 256 * x ∧ 256 * x ≤ 2048 by decide) s hs
  have hz : ∀ k, zs.getD k 1 ∈ [(1 : Int), 2, 4] := fun k => by
    by_cases hk : k < zs.length
    · exact (hp k hk).2
    · rw [List.getD_eq_getElem?_getD, List.getElem?_eq_none (by omega)]
      exact .head _
  have hz1 : ∀ k, 1 ≤ zs.getD k 1 := fun k => (show ∀ x ∈ [(1 : Int), 2, 4], 1 ≤ x by decide) _ (hz k)
  have hT : ∀ k, k ≤ zs.length → TOk (runT o0 o1 (256 * s) zs k) := fun k hk => runT_ok hs'.1 hs'.2 hz1 a0 a1 b0 b1 k (by omega)
  have hP : ∀ k, k < zs.length → pursesT (runT o0 o1 (256 * s) zs k) = runP (256 * s) (zs.take k) (zs.take k).length := fun k hk => by
    rw [runT_P, List.length_take, Nat.min_eq_left (by omega), runP_take _ _ _ _ (Nat.le_refl _)]
  refine ⟨n0, n1, h4, ?_, ?_, hT, ?_, ?_⟩
  · intro k hk
    have := n2 k hk
    split at this
    · rename_i x st e
      have e' := stK_succ e
      rw [e, e', beq_iff_eq.mp this]
    · cases this
  · rcases n3 with h | h
    · exact .inl h
    · right
      split at h
      · cases h
      · assumption
  · intro k hk
    have := set_mem _ (hp k hk).1.1
    unfold setChk at this
    have := List.all_eq_true.mp this s hs
    rw [hP k hk]
    exact this
  · intro k hk p hpm
    obtain ⟨e, he, rfl⟩ := List.mem_map.mp hpm
    have hr := (hT k (by omega)).rng e he
    rw [hP k hk] at hpm
    have := List.all_eq_true.mp (List.all_eq_true.mp (List.all_eq_true.mp (List.all_eq_true.mp inReach _ (hp k hk).1.1) s hs) _ hpm) _ (hp k hk).1.2
    exact light_of ha hb hr.1 hr.2 (hz k) (reachOf_ok (hz k) (List.contains_iff_mem.mp this))
structure Draws (sh pl : Nat) (f s st o0 o1 a b : Int) : Prop where
  sh : sh ∈ [0, 1, 2, 3]
  f : f ∈ [(1 : Int), 2, 4]
  s : s ∈ [(1 : Int), 2, 4]
  pl : pl ∈ [2, 3, 4]
  st : st ∈ sevens
  od : (o0, o1) ∈ oddsL
  a : a ∈ [(1 : Int), 2, 3, 4, 5]
  b : b ∈ [(0 : Int), 1, 2, 3, 4]
section
variable {sh pl : Nat} {f s st o0 o1 a b : Int}
theorem Draws.odds (D : Draws sh pl f s st o0 o1 a b) : 1 ≤ o0 ∧ o0 ≤ 5 ∧ 1 ≤ o1 ∧ o1 ≤ 5 := by
  have key : ∀ o ∈ oddsL, 1 ≤ o.1 ∧ o.1 ≤ 5 ∧ 1 ≤ o.2 ∧ o.2 ≤ 5 := by decide
  exact key _ D.od
theorem Draws.mem (D : Draws sh pl f s st o0 o1 a b) : (zsOf sh f s pl, pl) ∈ E4L :=
  List.contains_iff_mem.mp (List.all_eq_true.mp (List.all_eq_true.mp (List.all_eq_true.mp (List.all_eq_true.mp combo _ D.sh) _ D.f) _ D.s) _ D.pl)
theorem Draws.told (D : Draws sh pl f s st o0 o1 a b) : BookOK (rulOf sh f s) (zsOf sh f s pl) pl o0 o1 (256 * st) (hueF a b) := by
  obtain ⟨a0, a1, b0, b1⟩ := D.odds
  exact book_ok (List.all_eq_true.mp (List.all_eq_true.mp (List.all_eq_true.mp (List.all_eq_true.mp next_all _ D.sh) _ D.f) _ D.s) _ D.pl) D.mem D.st D.a D.b a0 a1 b0 b1
theorem Draws.bold (D : Draws sh pl f s st o0 o1 a b) : BookOK [1, 0] (List.replicate pl 1) pl o0 o1 (256 * st) (hueF a b) := by
  obtain ⟨a0, a1, b0, b1⟩ := D.odds
  exact book_ok (List.all_eq_true.mp next_bold _ D.pl) (List.contains_iff_mem.mp (List.all_eq_true.mp bold_mem _ D.pl)) D.st D.a D.b a0 a1 b0 b1
theorem Draws.chk (D : Draws sh pl f s st o0 o1 a b) : chkA (zsOf sh f s pl) pl st o0 o1 = true :=
  by
  have e := chk_mem _ D.mem
  unfold chkAll at e
  have e2 := List.all_eq_true.mp e _ D.st
  have e3 := List.all_eq_true.mp e2 _ D.od
  exact e3
theorem Draws.chkB (D : Draws sh pl f s st o0 o1 a b) : chkB pl st o0 o1 = true := by
  have h := D.pl
  simp only [List.mem_cons, List.not_mem_nil, or_false] at h
  rcases h with rfl | rfl | rfl
  · have e := List.all_eq_true.mp cb_2 _ D.st
    have e2 := List.all_eq_true.mp e _ D.od
    exact e2
  · have e := List.all_eq_true.mp cb_3 _ D.st
    have e2 := List.all_eq_true.mp e _ D.od
    exact e2
  · have e := List.all_eq_true.mp cb_4 _ D.st
    have e2 := List.all_eq_true.mp e _ D.od
    exact e2
end
end Mine

end
section
open PySem PySem.W PyProof.Rows PySem.Spec PySem.Calls PyProof.V
set_option Elab.async false
set_option maxRecDepth 100000
set_option maxHeartbeats 800000
namespace Mine
theorem ZVals.valueHas {kvs z} (h : ZVals kvs z) {k : Int} (hk : hasZ z k = true) : ∃ t', valueAt kvs k = some (.int (getZ z k) t') := by
  unfold valueAt
  induction h with
  | nil => cases hk
  | cons a n u _ ih =>
    by_cases e : a = k
    · subst e
      refine ⟨u, ?_⟩
      simp [getZ]
    · have hk' := hk
      simp only [hasZ, e, if_false] at hk'
      obtain ⟨t', h⟩ := ih hk'
      refine ⟨t', ?_⟩
      simpa [getZ, e, List.find?_cons] using h
section
variable {prog : Program} {w : World} {A : Around} {E : Value → Shared → Prop} {s : Shared} {h₀ : Heap} {L a b : Addr} {oa ob : Obj} {news : List (Addr × Obj)} {ka kb : List (Int × Value)} {x y : List (Int × Int)}
theorem hits_Z {kb : List (Int × Value)} {y : List (Int × Int)} (zb : ZVals kb y) {ka : List (Int × Value)} {x : List (Int × Int)} (za : ZVals ka x) (hs : (x.all fun e => hasZ y e.1 && getZ y e.1 == e.2) = true) : KeqHits A s kb ka true := by
  induction za with
  | nil => exact .nil
  | cons k n t _ ih =>
    rw [List.all_cons] at hs
    simp only [Bool.and_eq_true, beq_iff_eq] at hs
    obtain ⟨⟨h1, h2⟩, h3⟩ := hs
    obtain ⟨t', e⟩ := zb.valueHas h1
    rw [h2] at e
    have q : SeqAt.EqAt A s (.int n t) (.int n t') (PyData.eqv (.int n) (.int n)) := keq_flat (Flat.int _ _) (Flat.int _ _)
    have hb : PyData.eqv (.int n) (.int n) = true := by simp [PyData.eqv]
    rw [hb] at q
    exact KeqHits.hit (b := true) e q (ih (by simpa using h3))
theorem ne_Z {Q : Value → Shared → Prop} (N : News h₀ L s.heap news) (pa : (a, oa) ∈ news) (pb : (b, ob) ∈ news) (da : oa.IsDictOf (PySem.intKind prog w) ka) (db : ob.IsDictOf (PySem.intKind prog w) kb) (la : (a == sysModules) = false) (lb : (b == sysModules) = false)
    (za : ZVals ka x) (zb : ZVals kb y) (hs : same2 x y = true) (hu : A.units < cLine) (h : Q (.bool false) s) : wpAny (model prog w) A (compareOp .NotEq (.ref a) (.ref b)) Q E s := by
  unfold same2 at hs
  rw [Bool.and_eq_true, beq_iff_eq] at hs
  exact kne_pairs N pa pb da db la lb (by rw [za.length, zb.length]; exact hs.1) hu (hits_Z zb za hs.2) h
end
end Mine

end
section

open PySem PySem.W PyProof.Rows PySem.Spec PySem.Calls PyProof.Rows.LCg PyProof.Rows.LCt PyProof.Rows.LCp PySem.Flt
set_option Elab.async false
set_option maxRecDepth 100000
set_option maxHeartbeats 8000000
namespace Mine
theorem freshLawO : True := by
  w_top off
  trivial
theorem hold_it {P : Prop} (h : Hold P) : P := h
noncomputable def drawOf (ns : List Int) : List Int := (ns.take 5 ++ [2, 7, 4, 1, 19].drop (ns.take 5).length).map fun x => Int.fmod x 1000000
def LP (h₀ : Heap) (L : Addr) (s₁ : Shared) (P : (Str → Option Value) → List (Addr × Obj) → Prop) (f : Flow) (s' : Shared) : Prop :=
  f = .next ∧ ∃ h tk m nw, s' = { s₁ with heap := h, toks := tk } ∧ Fr h₀ L h m ∧ News h₀ L h nw ∧ P m nw
def Has (m : Str → Option Value) (x : Str) (n : Int) : Prop := ∃ t, m x = some (.int n t)
noncomputable def five (d0 d1 d2 d3 d4 : Int) (t0 t1 t2 t3 t4 : Tok) : Array Value := #[.int d0 t0, .int d1 t1, .int d2 t2, .int d3 t3, .int d4 t4]
structure DrawMode : Prop where
structure SizeMode : Prop where
structure IdxMode : Prop where
structure HueMode (x : Int) : Prop where
  div : 0 ≤ 1 + x.fmod 5 ∧ 1 + x.fmod 5 ≤ 2048
  add : ((x.fdiv 5).fmod 5).natAbs < 2 ^ 1023
def Locs (m : Str → Option Value) (l : List (Str × Value)) : Prop := ∀ x v, List.lookup x l = some v → m x = some v
theorem Locs.nil (m : Str → Option Value) : Locs m [] := fun _ _ h => by cases h
theorem Locs.cons {m : Str → Option Value} {l : List (Str × Value)} {x : Str} {v : Value} (h : m x = some v) (H : Locs m l) : Locs m ((x, v) :: l) := by
  intro y u e
  rw [List.lookup_cons] at e
  by_cases q : y = x
  · subst q
    rw [beq_self_eq_true] at e
    rw [h]; exact e
  · rw [beq_eq_false_iff_ne.mpr q] at e
    exact H _ _ e
theorem Locs.push {m : Str → Option Value} {l : List (Str × Value)} {x : Str} {v : Value} (H : Locs m l) : Locs (fun q => if q = x then some v else m q) ((x, v) :: l) := by
  intro y u h
  rw [List.lookup_cons] at h
  dsimp only
  by_cases e : y = x
  · subst e
    rw [if_pos rfl]
    simpa using h
  · rw [if_neg e]
    rw [beq_eq_false_iff_ne.mpr e] at h
    exact H _ _ h
def PA (ds : List Int) (m : Str → Option Value) (nw : List (Addr × Obj)) : Prop := ∃ D its n, nw = [(D, W.listOf its n)] ∧ IntsAre its.toList ds ∧ Locs m [(Str.ofString "draw", .ref D)]
theorem fmod_rng (x : Int) {n : Int} (hn : 0 < n) : 0 ≤ x.fmod n ∧ x.fmod n < n := ⟨Int.fmod_nonneg_of_pos _ hn, Int.fmod_lt_of_pos _ hn⟩
theorem draw_five (ns : List Int) : ∃ d0 d1 d2 d3 d4, drawOf ns = [d0, d1, d2, d3, d4] := by
  have hl : (drawOf ns).length = 5 := by
    unfold drawOf
    rw [List.length_map, List.length_append, List.length_drop, List.length_take, List.length_cons, List.length_cons, List.length_cons, List.length_cons, List.length_cons, List.length_nil]
    exact Nat.add_sub_of_le (Nat.min_le_left _ _)
  revert hl
  generalize drawOf ns = l
  intro hl
  match l, hl with
  | [a, b, c, d, e], _ => exact ⟨a, b, c, d, e, rfl⟩
theorem ints_cons {l : List Value} {n : Int} {ns : List Int} (h : IntsAre l (n :: ns)) : ∃ t r, l = .int n t :: r ∧ IntsAre r ns := by
  cases h with | cons _ t h => exact ⟨t, _, rfl, h⟩
theorem ints_five {its : Array Value} {d0 d1 d2 d3 d4 : Int} (h : IntsAre its.toList [d0, d1, d2, d3, d4]) : ∃ t0 t1 t2 t3 t4, its = #[.int d0 t0, .int d1 t1, .int d2 t2, .int d3 t3, .int d4 t4] := by
  obtain ⟨l⟩ := its
  obtain ⟨t0, l0, e0, h0⟩ := ints_cons h
  obtain ⟨t1, l1, rfl, h1⟩ := ints_cons h0
  obtain ⟨t2, l2, rfl, h2⟩ := ints_cons h1
  obtain ⟨t3, l3, rfl, h3⟩ := ints_cons h2
  obtain ⟨t4, l4, rfl, h4⟩ := ints_cons h3
  cases h4
  exact ⟨t0, t1, t2, t3, t4, congrArg Array.mk e0⟩
theorem news2 {h₀ h : Heap} {L : Addr} {nw : List (Addr × Obj)} {p q : Addr × Obj} (N : News h₀ L h nw) (a : p ∈ nw) (b : q ∈ nw) : News h₀ L h [p, q] := fun x hx => by
  simp only [List.mem_cons, List.not_mem_nil, or_false] at hx
  rcases hx with rfl | rfl
  · exact N _ a
  · exact N _ b
theorem news3 {h₀ h : Heap} {L : Addr} {nw : List (Addr × Obj)} {p q r : Addr × Obj} (N : News h₀ L h nw) (a : p ∈ nw) (b : q ∈ nw) (c : r ∈ nw) : News h₀ L h [p, q, r] := fun x hx => by
  simp only [List.mem_cons, List.not_mem_nil, or_false] at hx
  rcases hx with rfl | rfl | rfl
  · exact N _ a
  · exact N _ b
  · exact N _ c
local macro_rules | `(tactic| k_mem) => `(tactic| (repeat (first | exact .head _ | refine .tail _ ?_)))
theorem gen_LP {M : Model} {A : Around} {m : Sem Flow} {h₀ : Heap} {L : Addr} {s₁ s : Shared} {P : (Str → Option Value) → List (Addr × Obj) → Prop} {E : Value → Shared → Prop} (h : ∀ P', P' = P → ∀ E', wpAny M A m (LP h₀ L s₁ P') E' s) : wpAny M A m (LP h₀ L s₁ P) E s := h P rfl E
theorem in7 {x : Int} (h : 0 ≤ x ∧ x < 7) : 1 + x ∈ [(1 : Int), 2, 3, 4, 5, 6, 7] := by
  have key : ∀ n < 7, 1 + ((n : Nat) : Int) ∈ [(1 : Int), 2, 3, 4, 5, 6, 7] := by decide
  obtain ⟨n, rfl⟩ := Int.eq_ofNat_of_zero_le h.1
  exact key n (Int.ofNat_lt.mp h.2)
theorem in5 {x : Int} (h : 0 ≤ x ∧ x < 5) : 1 + x ∈ [(1 : Int), 2, 3, 4, 5] := by
  have key : ∀ n < 5, 1 + ((n : Nat) : Int) ∈ [(1 : Int), 2, 3, 4, 5] := by decide
  obtain ⟨n, rfl⟩ := Int.eq_ofNat_of_zero_le h.1
  exact key n (Int.ofNat_lt.mp h.2)
theorem in05 {x : Int} (h : 0 ≤ x ∧ x < 5) : x ∈ [(0 : Int), 1, 2, 3, 4] := by
  have key : ∀ n < 5, ((n : Nat) : Int) ∈ [(0 : Int), 1, 2, 3, 4] := by decide
  obtain ⟨n, rfl⟩ := Int.eq_ofNat_of_zero_le h.1
  exact key n (Int.ofNat_lt.mp h.2)
theorem in04 {x : Int} (h : 0 ≤ x ∧ x < 4) : x ∈ [(0 : Int), 1, 2, 3] := by
  have key : ∀ n < 4, ((n : Nat) : Int) ∈ [(0 : Int), 1, 2, 3] := by decide
  obtain ⟨n, rfl⟩ := Int.eq_ofNat_of_zero_le h.1
  exact key n (Int.ofNat_lt.mp h.2)
theorem in23 {x : Int} (h : 0 ≤ x ∧ x < 3) : 2 + x ∈ [(2 : Int), 3, 4] := by
  have key : ∀ n < 3, 2 + ((n : Nat) : Int) ∈ [(2 : Int), 3, 4] := by decide
  obtain ⟨n, rfl⟩ := Int.eq_ofNat_of_zero_le h.1
  exact key n (Int.ofNat_lt.mp h.2)
theorem odds_in {x y : Int} (h : 0 ≤ x ∧ x < 3) (h' : 0 ≤ y ∧ y < 3) : (1 + x, 1 + x + y) ∈ oddsL := by
  have a := three_i h
  have b := three_i h'
  rcases a with rfl | rfl | rfl <;> rcases b with rfl | rfl | rfl <;> decide
theorem pow3 {x : Int} (h : 0 ≤ x ∧ x < 3) : (2 : Int) ^ x.toNat ∈ [(1 : Int), 2, 4] := by
  have := three_i h
  rcases this with rfl | rfl | rfl <;> decide
theorem len_LI_mark : True := trivial
theorem pick_take4 (a b c d : Value) {k : Int} (hk : k = 2 ∨ k = 3 ∨ k = 4) : (slicePick #[a, b, c, d] none (some k) none).toList = [a, b, c, d].take k.toNat := by
  rcases hk with rfl | rfl | rfl
  · rw [kmk_pick_nat (a := 0) (b := 2) _ (show sliceBounds none (some (2 : Int)) none 4 = (((0 : Nat) : Int), ((2 : Nat) : Int), 1) by decide)]; rfl
  · rw [kmk_pick_nat (a := 0) (b := 3) _ (show sliceBounds none (some (3 : Int)) none 4 = (((0 : Nat) : Int), ((3 : Nat) : Int), 1) by decide)]; rfl
  · rw [kmk_pick_nat (a := 0) (b := 4) _ (show sliceBounds none (some (4 : Int)) none 4 = (((0 : Nat) : Int), ((4 : Nat) : Int), 1) by decide)]; rfl
theorem pick_take2 (a b : Value) {k : Int} (hk : k = 2 ∨ k = 3 ∨ k = 4) : (slicePick #[a, b] none (some k) none).toList = [a, b].take k.toNat := by
  rcases hk with rfl | rfl | rfl
  · rw [kmk_pick_nat (a := 0) (b := 2) _ (show sliceBounds none (some (2 : Int)) none 2 = (((0 : Nat) : Int), ((2 : Nat) : Int), 1) by decide)]; rfl
  · rw [kmk_pick_nat (a := 0) (b := 2) _ (show sliceBounds none (some (3 : Int)) none 2 = (((0 : Nat) : Int), ((2 : Nat) : Int), 1) by decide)]; rfl
  · rw [kmk_pick_nat (a := 0) (b := 2) _ (show sliceBounds none (some (4 : Int)) none 2 = (((0 : Nat) : Int), ((2 : Nat) : Int), 1) by decide)]; rfl
theorem pick_take1 (a : Value) {k : Int} (hk : k = 2 ∨ k = 3 ∨ k = 4) : (slicePick #[a] none (some k) none).toList = [a].take k.toNat := by
  rcases hk with rfl | rfl | rfl
  · rw [kmk_pick_nat (a := 0) (b := 1) _ (show sliceBounds none (some (2 : Int)) none 1 = (((0 : Nat) : Int), ((1 : Nat) : Int), 1) by decide)]; rfl
  · rw [kmk_pick_nat (a := 0) (b := 1) _ (show sliceBounds none (some (3 : Int)) none 1 = (((0 : Nat) : Int), ((1 : Nat) : Int), 1) by decide)]; rfl
  · rw [kmk_pick_nat (a := 0) (b := 1) _ (show sliceBounds none (some (4 : Int)) none 1 = (((0 : Nat) : Int), ((1 : Nat) : Int), 1) by decide)]; rfl
theorem pick_drop (a b c d e : Value) : ∀ (k : Nat), k ≤ 5 → (slicePick #[a, b, c, d, e] (some (k : Int)) none none).toList = [a, b, c, d, e].drop k
  | 0, _ => by rw [kmk_pick_nat (a := 0) (b := 5) _ (show sliceBounds (some ((0 : Nat) : Int)) none none 5 = (((0 : Nat) : Int), ((5 : Nat) : Int), 1) by decide)]; rfl
  | 1, _ => by rw [kmk_pick_nat (a := 1) (b := 5) _ (show sliceBounds (some ((1 : Nat) : Int)) none none 5 = (((1 : Nat) : Int), ((5 : Nat) : Int), 1) by decide)]; rfl
  | 2, _ => by rw [kmk_pick_nat (a := 2) (b := 5) _ (show sliceBounds (some ((2 : Nat) : Int)) none none 5 = (((2 : Nat) : Int), ((5 : Nat) : Int), 1) by decide)]; rfl
  | 3, _ => by rw [kmk_pick_nat (a := 3) (b := 5) _ (show sliceBounds (some ((3 : Nat) : Int)) none none 5 = (((3 : Nat) : Int), ((5 : Nat) : Int), 1) by decide)]; rfl
  | 4, _ => by rw [kmk_pick_nat (a := 4) (b := 5) _ (show sliceBounds (some ((4 : Nat) : Int)) none none 5 = (((4 : Nat) : Int), ((5 : Nat) : Int), 1) by decide)]; rfl
  | 5, _ => by rw [kmk_pick_nat (a := 5) (b := 5) _ (show sliceBounds (some ((5 : Nat) : Int)) none none 5 = (((5 : Nat) : Int), ((5 : Nat) : Int), 1) by decide)]; rfl
  | n + 6, h => absurd h (Nat.not_le_of_lt (Nat.lt_of_lt_of_le (by decide : 5 < 6) (Nat.le_add_left 6 n)))
def LPG (h₀ : Heap) (L : Addr) (s₁ : Shared) (P : (Str → Option Value) → List (Addr × Obj) → Prop) (f : Flow) (s' : Shared) : Prop :=
  f = .next ∧ ∃ h tk gs m nw, s' = { s₁ with heap := h, gens := gs, toks := tk } ∧ AllBare gs ∧ Fr h₀ L h m ∧ News h₀ L h nw ∧ P m nw
theorem gen_LPG {M : Model} {A : Around} {m : Sem Flow} {h₀ : Heap} {L : Addr} {s₁ s : Shared} {P : (Str → Option Value) → List (Addr × Obj) → Prop} {E : Value → Shared → Prop} (h : ∀ P', P' = P → ∀ E', wpAny M A m (LPG h₀ L s₁ P') E' s) : wpAny M A m (LPG h₀ L s₁ P) E s := h P rfl E
theorem gen_E {M : Model} {A : Around} {m : Sem Flow} {Q : Flow → Shared → Prop} {E : Value → Shared → Prop} {s : Shared} (h : ∀ E', wpAny M A m Q E' s) : wpAny M A m Q E s := h E
theorem AllBare.push {gs : Array GenState} {g : GenState} (h : AllBare gs) (hg : g.bare = true) : AllBare (gs.push g) := fun y hy => by
  rcases Array.mem_push.mp hy with hy | rfl
  · exact h y hy
  · exact hg
theorem isItB_dict {prog : Program} {w : World} {o : Obj} {kvs : List (Int × Value)} (h : o.IsDictOf (PySem.intKind prog w) kvs) : isItB o = false := by
  obtain ⟨es, ep, _, hd, _⟩ := h
  unfold isItB
  rw [hd]
theorem news4 {h₀ h : Heap} {L : Addr} {nw : List (Addr × Obj)} {p q r t : Addr × Obj} (N : News h₀ L h nw) (a : p ∈ nw) (b : q ∈ nw) (c : r ∈ nw) (d : t ∈ nw) : News h₀ L h [p, q, r, t] := fun x hx => by
  simp only [List.mem_cons, List.not_mem_nil, or_false] at hx
  rcases hx with rfl | rfl | rfl | rfl
  · exact N _ a
  · exact N _ b
  · exact N _ c
  · exact N _ d
theorem news_head {h₀ h : Heap} {L : Addr} {nw : List (Addr × Obj)} {p : Addr × Obj} (_N : News h₀ L h (p :: nw)) : p ∈ p :: nw := .head _
theorem toNat_in4 {x : Int} (h : x ∈ [(0 : Int), 1, 2, 3]) : x.toNat ∈ [0, 1, 2, 3] := by
  have key : ∀ x ∈ [(0 : Int), 1, 2, 3], x.toNat ∈ [0, 1, 2, 3] := by decide
  exact key x h
theorem toNat_in3 {x : Int} (h : x ∈ [(2 : Int), 3, 4]) : x.toNat ∈ [2, 3, 4] := by
  have key : ∀ x ∈ [(2 : Int), 3, 4], x.toNat ∈ [2, 3, 4] := by decide
  exact key x h
theorem zsOf_rng {sh : Int} {f s : Int} {pl : Nat} (hf : f ∈ [(1 : Int), 2, 4]) (hs : s ∈ [(1 : Int), 2, 4]) : ∀ z ∈ zsOf sh.toNat f s pl, 1 ≤ z ∧ z ≤ 4 := fun z hz => by
  have key : ∀ x ∈ [(1 : Int), 2, 4], 1 ≤ x ∧ x ≤ 4 := by decide
  unfold zsOf at hz
  have hz := List.mem_of_mem_take hz
  split at hz <;> simp only [List.mem_cons, List.not_mem_nil, or_false] at hz
  · rcases hz with rfl | rfl | rfl | rfl
    · exact key _ hf
    · exact key _ hs
    · exact key _ hs
    · exact key _ hs
  · rcases hz with rfl | rfl
    · exact key _ hf
    · exact key _ hs
  · subst hz
    exact key _ hf
  · rcases hz with rfl | rfl | rfl | rfl <;> exact key _ hf
section
variable (w : World) (mean : ExcName → Option Value) (mg mb : Str → Option Value)
theorem book_k (start plays : Int) (ts tp th : Tok) (hue : UInt64) (rul od : Addr) (its : Array Value) (nl nt : Nat) (ns zs : List Int) (o0 o1 : Int) (t0 t1 : Tok) (news : List (Addr × Obj)) :
  ∀ (dp un : Nat) (gd : Option (List Code)) (cn : Str) (cs : Scope) (a : Addr) (ccd : Value) (cl : List (Str × Addr)) (outer : List Env) (A₀ : Around) (base h₀ : Heap) (L : Addr) (m : Str → Option Value) (s : Shared) (Q E : Value → Shared → Prop),
    Below A₀ base outer h₀ → Fr h₀ L s.heap m → (hd.heap_39 w.params).In h₀ → News h₀ L s.heap news → Top hd.view_39 LO mean mg mb h₀ → cs.kind = .function →
      ((rul, W.listOf its nl) ∈ news ∧ (od, tupOf (.int o0 t0) (.int o1 t1) nt) ∈ news ∧ IntsAre its.toList ns ∧ BookOK ns zs plays.toNat o0 o1 start hue ∧ (0 ≤ start ∧ start ≤ 2048) ∧ (0 ≤ plays ∧ plays ≤ 4) ∧ (∀ p ∈ news, isItB p.2 = false) ∧ 1 ≤ o0 ∧ o0 ≤ 5 ∧ 1 ≤ o1 ∧ o1 ≤ 5) → dp + 12 < recursionLimit → un + 90 < cLine →
      (∀ D o kvs h' tk' gs, gs.bare = true → Fr h₀ L h' m → News h₀ L h' ((D, o) :: news) → (∀ p ∈ news, p.1 ≠ D) → (D == sysModules) = false → o.IsDictOf (PySem.intKind PG w) kvs → ZVals kvs (crowdsZ ((o0 + o1) ^ (plays - (zs.length : Int)).toNat) (runT o0 o1 start zs zs.length)) → Q (.ref D) { s with heap := h', gens := s.gens.push gs, toks := tk' }) →
      wpAny (model PG w) (ktrTop dp un gd cn cs L a ccd cl outer) (call (.ref 226) [.int start ts, .ref rul, .int plays tp, .ref od, .float hue th] []) Q E s := by
  intro dp un gd cn cs a ccd cl outer A₀ base h₀ L m s Q E hB hF hX hN hT hcs ⟨hl, ho, hi, B, hs, hp, hit, hod⟩ hdp hun hret
  have hle := B.le
  refine book_c w mean mg mb start plays ts tp th hue rul od its nl nt ns o0 o1 t0 t1 (runT o0 o1 start zs) (fun k => zs.getD k 1) zs.length news dp un gd cn cs a ccd cl outer A₀ base h₀ L m s Q E hB hF hX hN hT hcs ⟨hl, ho, hi, B.first, hs.1, hs.2, hp.1, hp.2, Int.le_trans (Int.ofNat_le.mpr hle) (Int.le_of_eq (Int.toNat_of_nonneg hp.1)), hit, rfl, B.next, ?_, fun _ _ => rfl, hod.1, hod.2.1, hod.2.2.1, hod.2.2.2, B.tok, B.sets, B.light⟩ hdp hun hret
  rcases B.last with h | h
  · exact .inl ((congrArg Int.ofNat h).trans (Int.toNat_of_nonneg hp.1))
  · exact .inr h
end
section
local macro_rules | `(tactic| walk_at "call ref") => `(tactic| (k_here; (with_reducible show wpAny _ _ (call (Value.ref _) _ _) _ _ _); refine hold_of ?_))
local macro_rules | `(tactic| walk_at "eval Name") => `(tactic| (k_here; (with_reducible rename Fr _ _ _ _ => F7); (with_reducible rename Locs _ _ => H7); k_dflt (with_unfolding_all refine ld F7 (H7 _ _ (by rfl)) ?_)))
local macro_rules | `(tactic| walk_at "subscriptTail Subscript") => `(tactic| (k_here; (with_reducible rename SizeMode => mX); (refine hold_of ?_)))
local macro_rules | `(tactic| walk_at "subscriptTail List") => `(tactic| (k_here; (with_reducible rename IdxMode => mX); (refine hold_of ?_)))
local macro_rules | `(tactic| walk_at "binaryOp Div int int") => `(tactic| (k_here; refine hold_of ?_))
local macro_rules | `(tactic| walk_at "binaryOp Add float int") => `(tactic| (k_here; refine hold_of ?_))
local macro_rules | `(tactic| walk_at "compareOp NotEq ref ref") => `(tactic| (k_here; refine hold_of ?_))
local macro_rules | `(tactic| walk_at "getMethod ref") => `(tactic| (k_here; refine hold_of ?_))
local macro_rules | `(tactic| walk_at "call builtin:dict.get") => `(tactic| (k_here; refine hold_of ?_))
local macro_rules | `(tactic| walk_at "binaryOp Add ref ref") => `(tactic| (k_here; (refine hold_of ?_)))
local macro_rules | `(tactic| walk_at "subscriptTail List") => `(tactic| (k_here; (with_reducible rename DrawMode => mX); (refine hold_of ?_)))
local macro_rules | `(tactic| walk_at "call builtin:len") => `(tactic| (k_here; k_dflt (refine len_L (by k_asm) (by k_mem) (by assumption) (by omega) ?_)))
theorem law_all : PySem.Challenge.rw_tp0024_01.Holds := hd (by
  k_fill
  intro w s₀ s₁ mg mb G Y fa o pm cd doc dV kV ho hd' hcd hD hmg hg args vals as hpre hlay hrd hwl hlo
  have KX := kIn_of Y
  have X := (Ground.X G).1
  have V := (Ground.X G).2
  refine Ground.open G ?_
  intro T B D TE TW
  try (refine guard_noD D (by decide +kernel) ?_; clear D)
  obtain ⟨_, _, M⟩ := bmod_of_top T
  have TA := at_of_top T
  have KB := based_of_top T rfl hmg ho hd'
  clear hmg
  wrow_args hpre hlay hrd hwl hlo
  all_goals (
    first | refine callC_kw (enter_call ?_) | refine enter_call ?_ | refine callC_kw (enter_callW ?_) | refine enter_callW ?_ | w_how
    w_top on
    have K0 := below_caller (Top.heap T)
    w_call any ho hd' hcd hD T F
    clear hd' TA
    k_drop
    skip)
  all_goals try k_fold
  rename IntsAre _ _ => hI
  rename List Int => ns
  clear hcd ho G X V hD B TE TW M Y
  dsimp only at F ⊢
  refine wpAny_execs_cons (wpAny_mono (Q := LP s₁.heap s₁.heap.objs.size s₁ (PA (drawOf ns))) ?first ?rest fun _ _ e => e)
  case first =>
    refine gen_LP ?_
    intro P9 hP9 E9
    have mode : DrawMode := .mk
    k_steps
    rename IntsAre _ (List.take 5 _) => hI5
    rename News _ _ _ _ => N5
    rename Fr _ _ _ _ => F5
    unfold Hold
    have hk5 : (ns.take 5).length ≤ 5 := by rw [List.length_take]; exact Nat.min_le_left _ _
    refine kba_turn (value' := PySem.Expr.Name (PySem.Str.ofString "_") ⟨0, 0, 0, 0⟩) (fun _ => rfl) ?_
    have hl5 := (N5 _ (by k_mem : (_, W.listOf #[_, _, _, _, _] _) ∈ _)).1
    refine' kmk_slice_ints (ns := [2, 7, 4, 1, 19]) (ms := [2, 7, 4, 1, 19].drop (ns.take 5).length) F5 N5 ⟨_, hl5, rfl, _, rfl⟩ ?sp ?sq ?si ?sm rfl ?_ ?ss ?st ?sz
    case sp => kmk_part
    case sq => kmk_part
    case si => exact .cons _ _ (.cons _ _ (.cons _ _ (.cons _ _ (.cons _ _ .nil))))
    case sm =>
      rw [pick_drop _ _ _ _ _ _ hk5]
      exact IntsAre.drop (.cons _ _ (.cons _ _ (.cons _ _ (.cons _ _ (.cons _ _ .nil))))) _
    case ss => with_unfolding_all rfl
    case st => kmk_pure
    case sz => rw [sizeLine_eq]; exact Nat.le_of_ble_eq_true rfl
    intro D9 ws9 h9 F9 N9 l9 i9 c9 d9
    k_steps
    unfold Hold
    have hd5 : (([2, 7, 4, 1, 19] : List Int).drop (ns.take 5).length).length ≤ 5 := by rw [List.length_drop]; exact Nat.sub_le _ _
    refine' kmk_add_ints F9 N9 ?xa ⟨_, (N9 _ (.head _)).1, rfl, 0, rfl⟩ ?xi i9 ?_ ?xz
    case xa => kmk_list
    case xi => assumption
    case xz => rw [sizeLine_eq]; exact Nat.le_trans (Nat.add_le_add hk5 hd5) (by decide)
    intro D10 us10 h10 F10 N10 l10 i10
    dsimp only at F10 N10 l10 ⊢
    k_steps
    rename NewPlain _ _ _ _ => npX
    obtain ⟨nX, NX, _⟩ := gn_enter npX (by assumption) (by assumption) (by assumption)
    subst hP9
    refine ⟨rfl, _, _, _, _, rfl, by assumption, fun p hp => NX p (by rw [List.mem_singleton.mp hp]; exact .head _), _, _, _, rfl, ?_, (Locs.nil _).push⟩
    exact gn_ints npX (by assumption) (by intro _; rfl)
  obtain ⟨d0, d1, d2, d3, d4, eds⟩ := draw_five ns
  rw [eds]
  rintro f s' ⟨rfl, h1, tk1, m1, nw', rfl, F1, N1, D, its, n1, rfl, I1, H1⟩
  dsimp only
  obtain ⟨t0, t1, t2, t3, t4, rfl⟩ := ints_five I1
  clear F I1 eds
  rename News _ _ _ [] => N0
  clear N0
  refine wpAny_execs_cons (wpAny_mono (Q := LP s₁.heap s₁.heap.objs.size s₁ fun m nw => ∃ st t5, st ∈ [(1 : Int), 2, 3, 4, 5, 6, 7] ∧ nw = [(D, W.listOf #[.int d0 t0, .int d1 t1, .int d2 t2, .int d3 t3, .int d4 t4] n1)] ∧ Locs m [(Str.ofString "start", .int st t5), (Str.ofString "draw", .ref D)]) ?f2 ?r2 fun _ _ e => e)
  case f2 =>
    refine gen_LP ?_
    intro P9 hP9 E9
    k_steps
    subst hP9
    refine ⟨rfl, _, _, _, _, rfl, by assumption, by assumption, _, _, ?_, rfl, Locs.push (by assumption)⟩
    exact in7 (fmod_rng d0 (n := 7) (by decide))
  rintro f s' ⟨rfl, h2, tk2, m2, nw', rfl, F2, N2, st, t5, hst, rfl, H2⟩
  dsimp only
  clear F1 N1 H1
  refine wpAny_execs_cons (wpAny_mono (Q := LP s₁.heap s₁.heap.objs.size s₁ fun m nw => ∃ fi t6, fi ∈ [(1 : Int), 2, 4] ∧ nw = [(D, W.listOf #[.int d0 t0, .int d1 t1, .int d2 t2, .int d3 t3, .int d4 t4] n1)] ∧ Locs m [(Str.ofString "first", .int fi t6), (Str.ofString "start", .int st t5), (Str.ofString "draw", .ref D)]) ?f3 ?r3 fun _ _ e => e)
  case f3 =>
    refine gen_LP ?_
    intro P9 hP9 E9
    have r1 := fmod_rng d1 (n := 3) (by decide)
    k_steps
    subst hP9
    refine ⟨rfl, _, _, _, _, rfl, by assumption, by assumption, _, _, ?_, rfl, Locs.push (by assumption)⟩
    exact pow3 r1
  rintro f s' ⟨rfl, h3, tk3, m3, nw', rfl, F3, N3, fi, t6, hfi, rfl, H3⟩
  dsimp only
  clear F2 N2 H2
  refine wpAny_execs_cons (wpAny_mono (Q := LP s₁.heap s₁.heap.objs.size s₁ fun m nw => ∃ se t7, se ∈ [(1 : Int), 2, 4] ∧ nw = [(D, W.listOf #[.int d0 t0, .int d1 t1, .int d2 t2, .int d3 t3, .int d4 t4] n1)] ∧ Locs m [(Str.ofString "second", .int se t7), (Str.ofString "first", .int fi t6), (Str.ofString "start", .int st t5), (Str.ofString "draw", .ref D)]) ?f4 ?r4 fun _ _ e => e)
  case f4 =>
    refine gen_LP ?_
    intro P9 hP9 E9
    have r1 := fmod_rng (d1.fdiv 3) (n := 3) (by decide)
    k_steps
    subst hP9
    refine ⟨rfl, _, _, _, _, rfl, by assumption, by assumption, _, _, ?_, rfl, Locs.push (by assumption)⟩
    exact pow3 r1
  rintro f s' ⟨rfl, h4, tk4, m4, nw', rfl, F4, N4, se, t7, hse, rfl, H4⟩
  dsimp only
  clear F3 N3 H3
  refine wpAny_execs_cons (wpAny_mono (Q := LP s₁.heap s₁.heap.objs.size s₁ fun m nw => ∃ sh t8, sh ∈ [(0 : Int), 1, 2, 3] ∧ nw = [(D, W.listOf #[.int d0 t0, .int d1 t1, .int d2 t2, .int d3 t3, .int d4 t4] n1)] ∧ Locs m [(Str.ofString "shape", .int sh t8), (Str.ofString "second", .int se t7), (Str.ofString "first", .int fi t6), (Str.ofString "start", .int st t5), (Str.ofString "draw", .ref D)]) ?f5 ?r5 fun _ _ e => e)
  case f5 =>
    refine gen_LP ?_
    intro P9 hP9 E9
    have r1 := fmod_rng (d1.fdiv 9) (n := 4) (by decide)
    k_steps
    subst hP9
    refine ⟨rfl, _, _, _, _, rfl, by assumption, by assumption, _, _, ?_, rfl, Locs.push (by assumption)⟩
    exact in04 r1
  rintro f s' ⟨rfl, h5, tk5, m5, nw', rfl, F5, N5, sh, t8, hsh, rfl, H5⟩
  dsimp only
  clear F4 N4 H4
  refine wpAny_execs_cons (wpAny_mono (Q := LP s₁.heap s₁.heap.objs.size s₁ fun m nw => ∃ R rits n2, IntsAre rits.toList (rulOf sh.toNat fi se) ∧ nw = [(R, W.listOf rits n2), (D, W.listOf #[.int d0 t0, .int d1 t1, .int d2 t2, .int d3 t3, .int d4 t4] n1)] ∧ Locs m [(Str.ofString "ruler", .ref R), (Str.ofString "shape", .int sh t8), (Str.ofString "second", .int se t7), (Str.ofString "first", .int fi t6), (Str.ofString "start", .int st t5), (Str.ofString "draw", .ref D)]) ?f6 ?r6 fun _ _ e => e)
  case f6 =>
    refine gen_LP ?_
    intro P9 hP9 E9
    have mode : IdxMode := .mk
    k_steps
    unfold Hold
    rename IdxMode => mode
    clear mode
    simp only [List.mem_cons, List.not_mem_nil, or_false] at hsh
    rcases hsh with rfl | rfl | rfl | rfl
    · k_steps
      rename News _ _ _ (_ :: _) => N9
      subst hP9
      refine' ⟨rfl, _, _, _, _, rfl, by assumption, news2 N9 ?ruA ?ruB, _, _, _, ?_, rfl, Locs.push (by assumption)⟩
      case ruA => k_mem
      case ruB => k_mem
      exact (.cons _ _ (.cons _ _ (.cons _ _ .nil)))
    · k_steps
      rename News _ _ _ (_ :: _) => N9
      subst hP9
      refine' ⟨rfl, _, _, _, _, rfl, by assumption, news2 N9 ?ruA ?ruB, _, _, _, ?_, rfl, Locs.push (by assumption)⟩
      case ruA => k_mem
      case ruB => k_mem
      exact (.cons _ _ (.cons _ _ .nil))
    · k_steps
      rename News _ _ _ (_ :: _) => N9
      subst hP9
      refine' ⟨rfl, _, _, _, _, rfl, by assumption, news2 N9 ?ruA ?ruB, _, _, _, ?_, rfl, Locs.push (by assumption)⟩
      case ruA => k_mem
      case ruB => k_mem
      exact (.cons _ _ (.cons _ _ (.cons _ _ .nil)))
    · k_steps
      rename News _ _ _ (_ :: _) => N9
      subst hP9
      refine' ⟨rfl, _, _, _, _, rfl, by assumption, news2 N9 ?ruA ?ruB, _, _, _, ?_, rfl, Locs.push (by assumption)⟩
      case ruA => k_mem
      case ruB => k_mem
      exact (.cons _ _ (.cons _ _ (.cons _ _ .nil)))

  rintro f s' ⟨rfl, h6, tk6, m6, nw', rfl, F6, N6, R, rits, n2, hR, rfl, H6⟩
  dsimp only
  clear F5 N5 H5
  refine wpAny_execs_cons (wpAny_mono (Q := LP s₁.heap s₁.heap.objs.size s₁ fun m nw => ∃ pl t9, pl ∈ [(2 : Int), 3, 4] ∧ nw = [(R, W.listOf rits n2), (D, W.listOf #[.int d0 t0, .int d1 t1, .int d2 t2, .int d3 t3, .int d4 t4] n1)] ∧ Locs m [(Str.ofString "plays", .int pl t9), (Str.ofString "ruler", .ref R), (Str.ofString "shape", .int sh t8), (Str.ofString "second", .int se t7), (Str.ofString "first", .int fi t6), (Str.ofString "start", .int st t5), (Str.ofString "draw", .ref D)]) ?f7 ?r7 fun _ _ e => e)
  case f7 =>
    refine gen_LP ?_
    intro P9 hP9 E9
    have r1 := fmod_rng d3 (n := 3) (by decide)
    k_steps
    subst hP9
    refine ⟨rfl, _, _, _, _, rfl, by assumption, by assumption, _, _, ?_, rfl, Locs.push (by assumption)⟩
    exact in23 r1
  rintro f s' ⟨rfl, h7, tk7, m7, nw', rfl, F7, N7, pl, t9, hpl, rfl, H7⟩
  dsimp only
  clear F6 N6 H6
  refine wpAny_execs_cons (wpAny_mono (Q := LP s₁.heap s₁.heap.objs.size s₁ fun m nw => ∃ S sits n3, IntsAre sits.toList (zsOf sh.toNat fi se pl.toNat) ∧ nw = [(S, W.listOf sits n3), (R, W.listOf rits n2), (D, W.listOf #[.int d0 t0, .int d1 t1, .int d2 t2, .int d3 t3, .int d4 t4] n1)] ∧ Locs m [(Str.ofString "sizes", .ref S), (Str.ofString "plays", .int pl t9), (Str.ofString "ruler", .ref R), (Str.ofString "shape", .int sh t8), (Str.ofString "second", .int se t7), (Str.ofString "first", .int fi t6), (Str.ofString "start", .int st t5), (Str.ofString "draw", .ref D)]) ?f8 ?r8 fun _ _ e => e)
  case f8 =>
    refine gen_LP ?_
    intro P9 hP9 E9
    have mode : SizeMode := .mk
    have mode2 : IdxMode := .mk
    k_steps
    unfold Hold
    rename IdxMode => mode2
    clear mode2
    simp only [List.mem_cons, List.not_mem_nil, or_false] at hsh hpl
    rcases hsh with rfl | rfl | rfl | rfl
    · k_steps
      rename News _ _ _ (_ :: _) => N9
      rename Fr _ _ _ _ => F9
      unfold Hold
      refine kba_turn (value' := PySem.Expr.Name (PySem.Str.ofString "_") ⟨0, 0, 0, 0⟩) (fun _ => rfl) ?_
      have hl9 := (N9 _ (by k_mem : (_, W.listOf #[.int fi _, .int se _, .int se _, .int se _] _) ∈ _)).1
      refine' kmk_slice_ints (ns := [fi, se, se, se]) (ms := [fi, se, se, se].take pl.toNat) F9 N9 ⟨_, hl9, rfl, _, rfl⟩ ?sp ?sq ?si ?sm rfl ?_ ?ss ?st ?sz
      case sp => kmk_part
      case sq => kmk_part
      case si => exact (.cons _ _ (.cons _ _ (.cons _ _ (.cons _ _ .nil))))
      case sm =>
        rw [pick_take4 _ _ _ _ hpl]
        exact IntsAre.take (.cons _ _ (.cons _ _ (.cons _ _ (.cons _ _ .nil)))) _
      case ss => with_unfolding_all rfl
      case st => kmk_pure
      case sz => rw [sizeLine_eq]; exact Nat.le_of_ble_eq_true rfl
      intro D9 ws9 h9 F9 N9 l9 i9 c9 d9
      k_steps
      rename News _ _ _ (_ :: _) => N9
      subst hP9
      refine' ⟨rfl, _, _, _, _, rfl, by assumption, news3 N9 ?szA ?szB ?szC, _, _, _, ?_, rfl, Locs.push (by assumption)⟩
      case szA => k_mem
      case szB => k_mem
      case szC => k_mem
      exact i9
    · k_steps
      rename News _ _ _ (_ :: _) => N9
      rename Fr _ _ _ _ => F9
      unfold Hold
      refine kba_turn (value' := PySem.Expr.Name (PySem.Str.ofString "_") ⟨0, 0, 0, 0⟩) (fun _ => rfl) ?_
      have hl9 := (N9 _ (by k_mem : (_, W.listOf #[.int fi _, .int se _] _) ∈ _)).1
      refine' kmk_slice_ints (ns := [fi, se]) (ms := [fi, se].take pl.toNat) F9 N9 ⟨_, hl9, rfl, _, rfl⟩ ?sp ?sq ?si ?sm rfl ?_ ?ss ?st ?sz
      case sp => kmk_part
      case sq => kmk_part
      case si => exact (.cons _ _ (.cons _ _ .nil))
      case sm =>
        rw [pick_take2 _ _ hpl]
        exact IntsAre.take (.cons _ _ (.cons _ _ .nil)) _
      case ss => with_unfolding_all rfl
      case st => kmk_pure
      case sz => rw [sizeLine_eq]; exact Nat.le_of_ble_eq_true rfl
      intro D9 ws9 h9 F9 N9 l9 i9 c9 d9
      k_steps
      rename News _ _ _ (_ :: _) => N9
      subst hP9
      refine' ⟨rfl, _, _, _, _, rfl, by assumption, news3 N9 ?szA ?szB ?szC, _, _, _, ?_, rfl, Locs.push (by assumption)⟩
      case szA => k_mem
      case szB => k_mem
      case szC => k_mem
      exact i9
    · k_steps
      rename News _ _ _ (_ :: _) => N9
      rename Fr _ _ _ _ => F9
      unfold Hold
      refine kba_turn (value' := PySem.Expr.Name (PySem.Str.ofString "_") ⟨0, 0, 0, 0⟩) (fun _ => rfl) ?_
      have hl9 := (N9 _ (by k_mem : (_, W.listOf #[.int fi _] _) ∈ _)).1
      refine' kmk_slice_ints (ns := [fi]) (ms := [fi].take pl.toNat) F9 N9 ⟨_, hl9, rfl, _, rfl⟩ ?sp ?sq ?si ?sm rfl ?_ ?ss ?st ?sz
      case sp => kmk_part
      case sq => kmk_part
      case si => exact (.cons _ _ .nil)
      case sm =>
        rw [pick_take1 _ hpl]
        exact IntsAre.take (.cons _ _ .nil) _
      case ss => with_unfolding_all rfl
      case st => kmk_pure
      case sz => rw [sizeLine_eq]; exact Nat.le_of_ble_eq_true rfl
      intro D9 ws9 h9 F9 N9 l9 i9 c9 d9
      k_steps
      rename News _ _ _ (_ :: _) => N9
      subst hP9
      refine' ⟨rfl, _, _, _, _, rfl, by assumption, news3 N9 ?szA ?szB ?szC, _, _, _, ?_, rfl, Locs.push (by assumption)⟩
      case szA => k_mem
      case szB => k_mem
      case szC => k_mem
      exact i9
    · k_steps
      rename News _ _ _ (_ :: _) => N9
      rename Fr _ _ _ _ => F9
      unfold Hold
      refine kba_turn (value' := PySem.Expr.Name (PySem.Str.ofString "_") ⟨0, 0, 0, 0⟩) (fun _ => rfl) ?_
      have hl9 := (N9 _ (by k_mem : (_, W.listOf #[.int fi _, .int fi _, .int fi _, .int fi _] _) ∈ _)).1
      refine' kmk_slice_ints (ns := [fi, fi, fi, fi]) (ms := [fi, fi, fi, fi].take pl.toNat) F9 N9 ⟨_, hl9, rfl, _, rfl⟩ ?sp ?sq ?si ?sm rfl ?_ ?ss ?st ?sz
      case sp => kmk_part
      case sq => kmk_part
      case si => exact (.cons _ _ (.cons _ _ (.cons _ _ (.cons _ _ .nil))))
      case sm =>
        rw [pick_take4 _ _ _ _ hpl]
        exact IntsAre.take (.cons _ _ (.cons _ _ (.cons _ _ (.cons _ _ .nil)))) _
      case ss => with_unfolding_all rfl
      case st => kmk_pure
      case sz => rw [sizeLine_eq]; exact Nat.le_of_ble_eq_true rfl
      intro D9 ws9 h9 F9 N9 l9 i9 c9 d9
      k_steps
      rename News _ _ _ (_ :: _) => N9
      subst hP9
      refine' ⟨rfl, _, _, _, _, rfl, by assumption, news3 N9 ?szA ?szB ?szC, _, _, _, ?_, rfl, Locs.push (by assumption)⟩
      case szA => k_mem
      case szB => k_mem
      case szC => k_mem
      exact i9

  rintro f s' ⟨rfl, h8, tk8, m8, nw', rfl, F8, N8, S, sits, n3, hS, rfl, H8⟩
  dsimp only
  clear F7 N7 H7
  refine wpAny_execs_cons (wpAny_mono (Q := LP s₁.heap s₁.heap.objs.size s₁ fun m nw => ∃ O o0 o1 u0 u1 n4, (o0, o1) ∈ oddsL ∧ nw = [(O, tupOf (.int o0 u0) (.int o1 u1) n4), (S, W.listOf sits n3), (R, W.listOf rits n2), (D, W.listOf #[.int d0 t0, .int d1 t1, .int d2 t2, .int d3 t3, .int d4 t4] n1)] ∧ Locs m [(Str.ofString "odds", .ref O), (Str.ofString "sizes", .ref S), (Str.ofString "plays", .int pl t9), (Str.ofString "ruler", .ref R), (Str.ofString "shape", .int sh t8), (Str.ofString "second", .int se t7), (Str.ofString "first", .int fi t6), (Str.ofString "start", .int st t5), (Str.ofString "draw", .ref D)]) ?f9 ?r9 fun _ _ e => e)
  case f9 =>
    refine gen_LP ?_
    intro P9 hP9 E9
    have r1 := fmod_rng d2 (n := 3) (by decide)
    have r2 := fmod_rng (d2.fdiv 3) (n := 3) (by decide)
    k_steps
    subst hP9
    refine' ⟨rfl, _, _, _, _, rfl, by assumption, by assumption, _, 1 + d2.fmod 3, 1 + d2.fmod 3 + (d2.fdiv 3).fmod 3, _, _, _, ?_, rfl, Locs.push (by assumption)⟩
    exact odds_in r1 r2
  rintro f s' ⟨rfl, h9, tk9, m9, nw', rfl, F9, N9, O, o0, o1, u0, u1, n4, hod, rfl, H9⟩
  dsimp only
  clear F8 N8 H8
  refine wpAny_execs_cons (wpAny_mono (Q := LP s₁.heap s₁.heap.objs.size s₁ fun m nw => ∃ ha hb t10, (ha ∈ [(1 : Int), 2, 3, 4, 5] ∧ hb ∈ [(0 : Int), 1, 2, 3, 4]) ∧ nw = [(O, tupOf (.int o0 u0) (.int o1 u1) n4), (S, W.listOf sits n3), (R, W.listOf rits n2), (D, W.listOf #[.int d0 t0, .int d1 t1, .int d2 t2, .int d3 t3, .int d4 t4] n1)] ∧ Locs m [(Str.ofString "hue", .float (hueF ha hb) t10), (Str.ofString "odds", .ref O), (Str.ofString "sizes", .ref S), (Str.ofString "plays", .int pl t9), (Str.ofString "ruler", .ref R), (Str.ofString "shape", .int sh t8), (Str.ofString "second", .int se t7), (Str.ofString "first", .int fi t6), (Str.ofString "start", .int st t5), (Str.ofString "draw", .ref D)]) ?f10 ?r10 fun _ _ e => e)
  case f10 =>
    refine gen_LP ?_
    intro P9 hP9 E9
    have r1 := fmod_rng d4 (n := 5) (by decide)
    have r2 := fmod_rng (d4.fdiv 5) (n := 5) (by decide)
    have mode : HueMode d4 := ⟨by omega, by omega⟩
    k_steps
    unfold Hold
    refine div_k rfl (by decide) (HueMode.div mode) ?_
    k_steps
    unfold Hold
    refine add_fi_fits (HueMode.add mode) ?_
    k_steps
    subst hP9
    refine' ⟨rfl, _, _, _, _, rfl, by assumption, by assumption, 1 + d4.fmod 5, (d4.fdiv 5).fmod 5, _, ⟨?hA, ?hB⟩, rfl, Locs.push (by assumption)⟩
    case hA => exact in5 r1
    case hB => exact in05 r2
  rintro f s' ⟨rfl, h10, tk10, m10, nw', rfl, F10, N10, ha, hb, t10, ⟨hha, hhb⟩, rfl, H10⟩
  dsimp only
  clear F9 N9 H9
  replace H10 := Locs.cons (H10 (Str.ofString "start") _ rfl) (Locs.cons (H10 (Str.ofString "ruler") _ rfl) (Locs.cons (H10 (Str.ofString "plays") _ rfl) (Locs.cons (H10 (Str.ofString "sizes") _ rfl) (Locs.cons (H10 (Str.ofString "odds") _ rfl) (Locs.cons (H10 (Str.ofString "hue") _ rfl) (Locs.nil m10))))))
  obtain ⟨zs, hzs⟩ : ∃ zs, zs = zsOf sh.toNat fi se pl.toNat := ⟨_, rfl⟩
  obtain ⟨rl, hrl⟩ : ∃ rl, rl = rulOf sh.toNat fi se := ⟨_, rfl⟩
  have hz4 : ∀ z ∈ zs, 1 ≤ z ∧ z ≤ 4 := by rw [hzs]; exact zsOf_rng hfi hse
  have DD : Draws sh.toNat pl.toNat fi se st o0 o1 ha hb := ⟨toNat_in4 hsh, hfi, hse, toNat_in3 hpl, hst, hod, hha, hhb⟩
  have BT := DD.told
  have BB := DD.bold
  have CA := DD.chk
  have CB := DD.chkB
  obtain ⟨od0, od1, od2, od3⟩ := DD.odds
  rw [← hzs] at hS BT CA
  rw [← hrl] at hR BT
  clear hzs hrl DD
  have hpl2 : 2 ≤ pl ∧ pl ≤ 4 := (show ∀ x ∈ [(2 : Int), 3, 4], 2 ≤ x ∧ x ≤ 4 by decide) pl hpl
  have hpl3 := (show ∀ x ∈ [(2 : Int), 3, 4], ((min x.toNat 3 : Nat) : Int) = (if 3 < x then 3 else x) ∧ (x - (x.toNat : Int)).toNat = 0 by decide) pl hpl
  have hst2 := (show ∀ x ∈ [(1 : Int), 2, 3, 4, 5, 6, 7], 0 ≤ 256 * x ∧ 256 * x ≤ 2048 ∧ 0 ≤ x ∧ x ≤ 8 by decide) st hst
  obtain ⟨hpl3, hpl4⟩ := hpl3
  have hp0 : 0 ≤ pl := Int.le_trans (by decide) hpl2.1
  have hzl := BT.le
  have hzl4 := BT.four
  have epl : ((pl.toNat : Nat) : Int) = pl := Int.toNat_of_nonneg hp0
  have ezl : pl.toNat - zs.length = (pl - (zs.length : Int)).toNat := (Int.toNat_sub pl.toNat zs.length).symm.trans (congrArg (fun x => (x - (zs.length : Int)).toNat) epl)
  unfold chkA at CA
  unfold chkB at CB
  rw [ezl, epl, Bool.and_eq_true, decide_eq_true_eq] at CA
  rw [epl, Bool.and_eq_true, beq_iff_eq, beq_iff_eq] at CB
  obtain ⟨C1, C2⟩ := CA
  obtain ⟨C3, C4⟩ := CB
  clear epl ezl hst hpl hsh hfi hse hod hha hhb
  refine wpAny_execs_cons (wpAny_mono (Q := LPG s₁.heap s₁.heap.objs.size s₁ fun m nw => ∃ DT oT kvT, (oT.IsDictOf (PySem.intKind PG w) kvT ∧ (DT == sysModules) = false ∧ ZVals kvT (crowdsZ ((o0 + o1) ^ (pl - (zs.length : Int)).toNat) (runT o0 o1 (256 * st) zs zs.length))) ∧  nw = [(DT, oT), (O, tupOf (.int o0 u0) (.int o1 u1) n4), (S, W.listOf sits n3), (R, W.listOf rits n2)] ∧ Locs m [(Str.ofString "told", .ref DT), (Str.ofString "start", .int st t5), (Str.ofString "ruler", .ref R), (Str.ofString "plays", .int pl t9), (Str.ofString "sizes", .ref S), (Str.ofString "odds", .ref O), (Str.ofString "hue", .float (hueF ha hb) t10)]) ?fT ?rT fun _ _ e => e)
  case fT =>
    refine gen_LPG ?_
    intro P9 hP9 E9
    k_steps
    unfold Hold
    refine' book_k _ _ _ _ _ _ _ _ _ _ R O rits n2 n4 rl zs o0 o1 u0 u1 _ _ _ _ _ _ _ _ _ _ _ _ _ _ _ _ _ _ ?k1 ?k2 ?k3 ?k4 ?k5 ?kK ?kp ?kd ?ku ?_
    (case k1 => k_asm); (case k2 => k_asm); (case k3 => k_asm); (case k4 => k_asm); (case k5 => k_asm); (case kK => first | exact rfl | assumption); (case kd => ktr_room); (case ku => ktr_units)
    case kp =>
      refine ⟨by k_mem, by k_mem, hR, BT, ⟨hst2.1, hst2.2.1⟩, ⟨hp0, hpl2.2⟩, ?_, od0, od1, od2, od3⟩
      intro p hp
      simp only [List.mem_cons, List.not_mem_nil, or_false] at hp
      rcases hp with rfl | rfl | rfl | rfl
      · rfl
      · rfl
      · rfl
      · rfl
    intro DT oT kvT h9 tk9 g1 hb1 F9 N9 hne1 hs1 hd1 hz1
    k_steps
    rename News _ _ _ (_ :: _) => N9
    subst hP9
    refine' ⟨rfl, _, _, _, _, _, rfl, AllBare.push (AllBare.of_eq hg) hb1, by assumption, news4 N9 ?nA ?nB ?nC ?nD, DT, oT, kvT, ⟨hd1, hs1, hz1⟩, rfl, Locs.push (by assumption)⟩
    case nA => k_mem
    case nB => k_mem
    case nC => k_mem
    case nD => k_mem
  rintro f s' ⟨rfl, hT, tkT, gsT, mT, nw', rfl, GT, FT, NT, DT, oT, kvT, ⟨hd1, hs1, hz1⟩, rfl, HT⟩
  dsimp only
  clear F10 N10 H10
  refine wpAny_execs_cons (wpAny_mono (Q := LPG s₁.heap s₁.heap.objs.size s₁ fun m nw => ∃ DB oB kvB, (oB.IsDictOf (PySem.intKind PG w) kvB ∧ (DB == sysModules) = false ∧ ZVals kvB (crowdsZ 1 (runT o0 o1 (256 * st) (List.replicate pl.toNat 1) pl.toNat))) ∧  nw = [(DB, oB), (DT, oT), (O, tupOf (.int o0 u0) (.int o1 u1) n4), (S, W.listOf sits n3)] ∧ Locs m [(Str.ofString "bold", .ref DB), (Str.ofString "told", .ref DT), (Str.ofString "start", .int st t5), (Str.ofString "ruler", .ref R), (Str.ofString "plays", .int pl t9), (Str.ofString "sizes", .ref S), (Str.ofString "odds", .ref O), (Str.ofString "hue", .float (hueF ha hb) t10)]) ?fB ?rB fun _ _ e => e)
  case fB =>
    refine gen_LPG ?_
    intro P9 hP9 E9
    k_steps
    unfold Hold
    rename News _ _ _ (_ :: _) => N9
    have hm9 := news_head N9
    have hi9 : IntsAre (#[.int 1 _, .int 0 _] : Array Value).toList [1, 0] := .cons _ (tkT + 1 + 1) (.cons _ (tkT + 1 + 1 + 1) .nil)
    refine' book_k _ _ _ _ _ _ _ _ _ _ _ O _ _ n4 [1, 0] (List.replicate pl.toNat 1) o0 o1 u0 u1 _ _ _ _ _ _ _ _ _ _ _ _ _ _ _ _ _ _ ?k1 ?k2 ?k3 ?k4 ?k5 ?kK ?kp ?kd ?ku ?_
    (case k1 => k_asm); (case k2 => k_asm); (case k3 => k_asm); (case k4 => k_asm); (case k5 => k_asm); (case kK => first | exact rfl | assumption); (case kd => ktr_room); (case ku => ktr_units)
    case kp =>
      refine ⟨by assumption, by k_mem, by assumption, BB, ⟨hst2.1, hst2.2.1⟩, ⟨hp0, hpl2.2⟩, ?_, od0, od1, od2, od3⟩
      intro p hp
      simp only [List.mem_cons, List.not_mem_nil, or_false] at hp
      rcases hp with rfl | rfl | rfl | rfl | rfl
      · rfl
      · exact isItB_dict hd1
      · rfl
      · rfl
      · rfl
    intro DB oB kvB h9 tk9 g2 hb2 F9 N9 hne2 hs2 hd2 hz2
    rw [List.length_replicate, hpl4, Int.pow_zero] at hz2
    k_steps
    rename News _ _ _ (_ :: _) => N9
    subst hP9
    refine' ⟨rfl, _, _, _, _, _, rfl, AllBare.push GT hb2, by assumption, news4 N9 ?nA ?nB ?nC ?nD, DB, oB, kvB, ⟨hd2, hs2, hz2⟩, rfl, Locs.push (by assumption)⟩
    case nA => k_mem
    case nB => k_mem
    case nC => k_mem
    case nD => k_mem
  rintro f s' ⟨rfl, hB, tkB, gsB, mB, nw', rfl, GB, FB, NB, DB, oB, kvB, ⟨hd2, hs2, hz2⟩, rfl, HB⟩
  dsimp only
  clear FT NT HT
  refine wpAny_execs_cons (wpAny_mono (Q := LPG s₁.heap s₁.heap.objs.size s₁ fun m nw =>  nw = [(DB, oB), (DT, oT), (O, tupOf (.int o0 u0) (.int o1 u1) n4), (S, W.listOf sits n3)] ∧ Locs m [(Str.ofString "bold", .ref DB), (Str.ofString "told", .ref DT), (Str.ofString "start", .int st t5), (Str.ofString "ruler", .ref R), (Str.ofString "plays", .int pl t9), (Str.ofString "sizes", .ref S), (Str.ofString "odds", .ref O), (Str.ofString "hue", .float (hueF ha hb) t10)]) ?fI ?rI fun _ _ e => e)
  case fI =>
    refine gen_LPG ?_
    intro P9 hP9 E9
    have hpw := pow_b (x := o0 + o1) (odds_one od0 od2) (Int.add_le_add od1 od3) (pl - (zs.length : Int)).toNat
    have hpw2 := ten_pow (n := (pl - (zs.length : Int)).toNat) (by omega)
    obtain ⟨hpw0, hpw1⟩ := hpw
    k_steps
    unfold Hold
    refine' hist_c _ _ _ _ _ _ _ _ S O sits n3 n4 zs o0 o1 u0 u1 _ _ _ _ _ _ _ _ _ _ _ _ _ _ _ _ _ _ ?k1 ?k2 ?k3 ?k4 ?k5 ?kK ?kp ?kd ?ku ?_
    (case k1 => k_asm); (case k2 => k_asm); (case k3 => k_asm); (case k4 => k_asm); (case k5 => k_asm); (case kK => first | exact rfl | assumption); (case kd => ktr_room); (case ku => ktr_units)
    case kp => exact ⟨by k_mem, by k_mem, hS, hzl4, hz4, hpw0, Int.le_trans hpw1 hpw2, od0, od1, od2, od3⟩
    k_whole
    intro v9 h9 tk9 F9 r9
    obtain ⟨DH, oH, kvH, e9, N9, hneH, hsH, hdH, hzH⟩ := r9
    subst e9
    k_steps
    unfold Hold
    refine ne_Z N9 (by k_mem) (by k_mem) hd1 hdH hs1 hsH hz1 hzH C1 (by ktr_units) ?_
    k_steps
    subst hP9
    refine' ⟨rfl, _, _, _, _, _, rfl, GB, by assumption, fun p hp => N9 p (.tail _ hp), rfl, by assumption⟩
  rintro f s' ⟨rfl, hI, tkI, gsI, mI, nw', rfl, GI, FI, NI, rfl, HI⟩
  dsimp only
  clear FB NB HB
  refine wpAny_execs_cons (wpAny_mono (Q := LPG s₁.heap s₁.heap.objs.size s₁ fun m nw => ∃ t11,  nw = [(DB, oB), (DT, oT), (O, tupOf (.int o0 u0) (.int o1 u1) n4), (S, W.listOf sits n3)] ∧ Locs m [(Str.ofString "white", .int (getZ (crowdsZ 1 (runT o0 o1 (256 * st) (List.replicate pl.toNat 1) pl.toNat)) 2048) t11), (Str.ofString "bold", .ref DB), (Str.ofString "told", .ref DT), (Str.ofString "start", .int st t5), (Str.ofString "ruler", .ref R), (Str.ofString "plays", .int pl t9), (Str.ofString "sizes", .ref S), (Str.ofString "odds", .ref O), (Str.ofString "hue", .float (hueF ha hb) t10)]) ?fW ?rW fun _ _ e => e)
  case fW =>
    refine gen_LPG ?_
    intro P9 hP9 E9
    k_steps
    unfold Hold
    refine kdg_method (knd := PySem.intKind _ _) NI (by k_mem) hd2 ?_
    k_steps
    unfold Hold
    refine get_Z NI (by k_mem) hd2 hs2 hz2 ?_
    intro t9
    k_steps
    subst hP9
    refine' ⟨rfl, _, _, _, _, _, rfl, GI, by assumption, by assumption, _, rfl, Locs.push (by assumption)⟩
  rintro f s' ⟨rfl, hW, tkW, gsW, mW, nw', rfl, GW, FW, NW, t11, rfl, HW⟩
  dsimp only
  clear FI NI HI
  refine wpAny_execs_cons (wpAny_mono (Q := LPG s₁.heap s₁.heap.objs.size s₁ fun m nw =>  nw = [(DB, oB), (DT, oT), (O, tupOf (.int o0 u0) (.int o1 u1) n4), (S, W.listOf sits n3)] ∧ Locs m [(Str.ofString "white", .int (getZ (crowdsZ 1 (runT o0 o1 (256 * st) (List.replicate pl.toNat 1) pl.toNat)) 2048) t11), (Str.ofString "bold", .ref DB), (Str.ofString "told", .ref DT), (Str.ofString "start", .int st t5), (Str.ofString "ruler", .ref R), (Str.ofString "plays", .int pl t9), (Str.ofString "sizes", .ref S), (Str.ofString "odds", .ref O), (Str.ofString "hue", .float (hueF ha hb) t10)]) ?fJ ?rJ fun _ _ e => e)
  case fJ =>
    refine gen_LPG ?_
    intro P9 hP9 E9
    k_steps
    unfold Hold
    refine' best_c _ _ _ _ _ _ _ _ O n4 o0 o1 u0 u1 _ _ _ _ _ _ _ _ _ _ _ _ _ _ _ _ _ _ ?k1 ?k2 ?k3 ?k4 ?k5 ?kK ?kp ?kd ?ku ?_
    (case k1 => k_asm); (case k2 => k_asm); (case k3 => k_asm); (case k4 => k_asm); (case k5 => k_asm); (case kK => first | exact rfl | assumption); (case kd => ktr_room); (case ku => ktr_units)
    case kp => exact ⟨by k_mem, hpl2.1, hpl2.2, hst2.2.2.1, hst2.2.2.2, od0, od1, od2, od3⟩
    k_whole
    intro v9 h9 tk9 F9 r9
    obtain ⟨⟨tb, e9⟩, N9⟩ := r9
    rw [C4, ← C3] at e9
    subst e9
    k_steps
    all_goals first | (rename (_ : Int) ≠ _ => hx; exact absurd rfl hx) | skip
    all_goals (
      unfold Hold
      refine' fig_c _ _ _ _ _ _ _ _ O n4 o0 o1 u0 u1 (min pl.toNat 3) _ _ _ _ _ _ _ _ _ _ _ _ _ _ _ _ _ _ ?k1 ?k2 ?k3 ?k4 ?k5 ?kK ?kp ?kd ?ku ?_
      (case k1 => k_asm); (case k2 => k_asm); (case k3 => k_asm); (case k4 => k_asm); (case k5 => k_asm); (case kK => first | exact rfl | assumption); (case kd => ktr_room); (case ku => ktr_units)
      case kp => exact ⟨by k_mem, hpl2.1, hpl2.2, hpl3, od0, od1, od2, od3⟩
      k_whole
      intro v9 h9 tk9 F9 r9
      obtain ⟨⟨tb, e9⟩, N9⟩ := r9
      rw [← C3] at e9
      subst e9
      k_steps
      all_goals first | (rename (_ : Int) ≠ _ => hx; exact absurd rfl hx) | skip
      all_goals subst hP9
      all_goals refine' ⟨rfl, _, _, _, _, _, rfl, GW, by assumption, by assumption, rfl, by assumption⟩)
  rintro f s' ⟨rfl, hJ, tkJ, gsJ, mJ, nw', rfl, GJ, FJ, NJ, rfl, HJ⟩
  dsimp only
  clear FW NW HW
  refine gen_E ?_
  intro E9
  k_steps
  unfold Hold
  refine kdg_method (knd := PySem.intKind _ _) NJ (by k_mem) hd1 ?_
  k_steps
  unfold Hold
  refine get_Z NJ (by k_mem) hd1 hs1 hz1 ?_
  intro t9
  k_steps
  have hle : decide (getZ (crowdsZ ((o0 + o1) ^ (pl - (zs.length : Int)).toNat) (runT o0 o1 (256 * st) zs zs.length)) 2048 ≤ getZ (crowdsZ 1 (runT o0 o1 (256 * st) (List.replicate pl.toNat 1) pl.toNat)) 2048) = true := decide_eq_true (by rw [C3]; exact C2)
  rw [hle]
  show GoodWG _ _ _ _ _ _ _
  obtain ⟨cB, PB, -, B0⟩ := KB
  rename Fr _ _ _ _ => F9
  refine goodWG_reads (d := .bool true) (as := []) B0 F9 GJ (raisesW_false (by wrow_none_raised)) ?e1 ?e2 ?e3 ?e4
  case e1 => exact readsW_of_reads (d := PyData.bool true) (Reads.bool true)
  case e2 => exact fun _ => ⟨List.nodup_nil, fun a h => by cases h⟩
  case e3 => exact postW_of (X := true) (by kernel_rfl) (by kernel_rfl) rfl
  case e4 => rfl
  )
end
end Mine

end
theorem PySem.Challenge.cw_tp0024_01_holds : PySem.Challenge.rw_tp0024_01.Holds := by
  exact Mine.law_all
