import PyProof.Rows.All
import Wide.All
import OpenK.AllK
import Wide.FinOn
import PySem.Challenge.RW_ux0002_02
set_option Elab.async false
section
open PySem PySem.W PyProof.Rows
namespace Mine
set_option maxRecDepth 100000 in
set_option maxHeartbeats 8000000 in
open_top hdB for PySem.Challenge.rw_ux0002_02
end Mine
end
section
open PySem PySem.W PyProof.Rows PySem.Calls
set_option linter.unusedVariables false
set_option maxRecDepth 100000
namespace Mine
open Builtin.Str
section
variable {prog : Program} {w : World} {A : Around} {E : Value → Shared → Prop} {s : Shared} {h₀ : Heap} {L D : Addr} {m : Str → Option Value} {news news' : List (Addr × Obj)}

theorem truthy_split {x : Str} {t : Tok} {Q : Bool → Shared → Prop} (h63 : x.length ≤ 100000)
    (h1 : x.length ≠ 0 → ∀ k, Q true { s with toks := k }) (h0 : x.length = 0 → ∀ k, Q false { s with toks := k }) :
    wpAny (model prog w) A (PySem.truthy (.str x t)) Q E s := by
  refine SBL.truthy (by omega) ?_
  by_cases h : x.length = 0
  · have e : ((x.length : Int) != 0) = false := by simp [h]
    rw [e]; exact h0 h _
  · have e : ((x.length : Int) != 0) = true := by simp [h]
    rw [e]; exact h1 h _

theorem cut_of : ∀ (l : List Value) (k : Nat), k < l.length → ki_delL l k = some (l.eraseIdx k)
  | [], _, h => by simp at h
  | _ :: _, 0, _ => rfl
  | x :: r, k + 1, h => by
    have ih := cut_of r k (by simpa using h)
    simp only [ki_delL, ih, List.eraseIdx_cons_succ]

theorem strsAre_values (l : List (Str × Tok)) : StrsAre (strValues l) (l.map (·.1)) := strsAre_of_values l

theorem map_erase {α β : Type} (f : α → β) : ∀ (l : List α) (k : Nat), (l.eraseIdx k).map f = (l.map f).eraseIdx k
  | [], _ => rfl
  | _ :: _, 0 => rfl
  | _ :: r, k + 1 => by rw [List.eraseIdx_cons_succ, List.map_cons, List.map_cons, List.eraseIdx_cons_succ, map_erase f r k]
theorem del_strs {l : List (Str × Tok)} {n k B : Nat} {i : Int} {u : Tok} {l' : List (Str × Tok)} {Q : Unit → Shared → Prop} (F : Fr h₀ L s.heap m) (N : News h₀ L s.heap news)
    (hB : ∀ a ∈ l.map (·.1), a.length ≤ B) (hz : l.length ≤ 100000) (hf : Builtin.List.listFitsIndex i = true) (hk : seqIndex? i l.length = some k) (hkl : k < l.length) (hl' : l.eraseIdx k = l')
    (U : Upd D (listOf (strValues l).toArray n) (listOf (strValues l').toArray (n + 1)) news news')
    (h : ∀ h', Fr h₀ L h' m → News h₀ L h' news' → h'.IsList D (strValues l').toArray → StrsAre (strValues l') (l'.map (·.1)) → (∀ a ∈ l'.map (·.1), a.length ≤ B) → l'.length + 1 = l.length → Q () { s with heap := h' }) :
    wpAny (model prog w) A (delItem (.ref D) (.int i u)) Q E s := by
  have hlen : (strValues l).length = l.length := by simp [strValues]
  have hcut := cut_of (strValues l) k (by omega)
  have he : (strValues l).eraseIdx k = strValues l' := by rw [← hl']; unfold strValues; rw [map_erase]
  rw [he] at hcut
  refine ki_del (its := (strValues l).toArray) F N hf (by simpa [hlen] using hk) (by simpa using hcut) U (by rw [sizeLine_eq]; show (strValues l).length ≤ _; omega) (fun h' F' N' => ?_)
  obtain ⟨pre, post, rfl, rfl, a, b⟩ := U.split
  refine h h' F' N' ⟨_, (N' (D, _) (List.mem_append.mpr (.inr (.head _)))).1, rfl, _, rfl⟩ (strsAre_values l') (fun a ha => hB a ?_) ?_
  · subst hl'
    have : (l.eraseIdx k).map (·.1) = (l.map (·.1)).eraseIdx k := map_erase _ l k
    rw [this] at ha
    exact List.mem_of_mem_eraseIdx ha
  · subst hl'; rw [List.length_eraseIdx]; simp only [hkl, if_true]; omega

theorem gives_find4 (x y : Str) (i j : Int) (t u v r : Tok) : Gives (Builtin.«str.find» ⟨[.str x t, .str y u, .int i v, .int j r], []⟩) (.int (match occurrences x y (fromIndex x.length i) (min (fromIndex x.length j) x.length) 1 with | k :: _ => (k : Int) | [] => -1)) := by
  show Gives (match occurrences x y (fromIndex x.length i) (min (fromIndex x.length j) x.length) 1 with | k :: _ => retInt k | [] => (do rule "str.find.not-found"; retInt (-1))) _
  cases occurrences x y (fromIndex x.length i) (min (fromIndex x.length j) x.length) 1 with
  | nil => exact .rule (.of_eq rfl)
  | cons k _ => exact .of_eq rfl
theorem fromIndex_nat (n k : Nat) : fromIndex n (k : Int) = k := by
  unfold fromIndex
  have : ¬ ((k : Int) < 0) := by omega
  simp only [this, if_false]; omega

theorem find4 {x y : Str} {t u v r : Tok} {i j : Int} {a : Nat} {Q : Value → Shared → Prop} (hi : i = (a : Nat)) (hj : 0 ≤ j) (hb : j.toNat ≤ x.length)
    (h1 : ∀ k rest, occurrences x y a j.toNat 1 = k :: rest → ∀ t' tk, Q (.int (k : Nat) t') { s with toks := tk })
    (h0 : occurrences x y a j.toNat 1 = [] → ∀ t' tk, Q (.int (-1) t') { s with toks := tk }) :
    wpAny (model prog w) A (call (.builtin "str.find") [.str x t, .str y u, .int i v, .int j r]) Q E s := by
  refine call_gives F.slot_str_find (typeIs_str _ _ _) F.entry_str_find (F.args_str_find_4 _ _ _ _) (gives_find4 x y i j t u v r) ?_
  have ej : fromIndex x.length j = j.toNat := by
    unfold fromIndex
    have : ¬ (j < 0) := by omega
    simp only [this, if_false]; omega
  subst hi
  rw [fromIndex_nat, ej, Nat.min_eq_left hb]
  cases he : occurrences x y a j.toNat 1 with
  | nil => exact h0 he _ _
  | cons k rest => exact h1 k rest he _ _
theorem len_str {x : Str} {t : Tok} {Q : Value → Shared → Prop} (h63 : x.length ≤ 100000) (h : ∀ t' tk, Q (.int x.length t') { s with toks := tk }) : wpAny (model prog w) A (call (.builtin "len") [.str x t]) Q E s :=
  SBL.len (by omega) (h _ _)
end

/-! a loop over a list of the ledger, any values -/
section
variable {prog : Program} {w : World} {A : Around} {E : Value → Shared → Prop} {s : Shared} {env : Env} {h₀ : Heap} {x : Str} {body : List Stmt} {Q : Flow → Shared → Prop}

def LedEnd (h₀ : Heap) (L : Addr) (J : (Str → Option Value) → List (Addr × Obj) → Prop) (I : Addr) (oI : Obj) (pD : Addr × Obj) (s₁ s₂ : Shared) : Prop :=
  ∃ h' tk m' nx, s₂ = { s₁ with heap := h', toks := tk } ∧ Fr h₀ L h' m' ∧ News h₀ L h' ((I, oI) :: nx) ∧ (∀ p ∈ nx, p.1 ≠ I) ∧ pD ∈ nx ∧ J m' nx
def LedPost (h₀ : Heap) (L : Addr) (J : (Str → Option Value) → List (Addr × Obj) → Prop) (I : Addr) (oI : Obj) (pD : Addr × Obj) (s₁ : Shared) (Q : Flow → Shared → Prop) (f : Flow) (s₂ : Shared) : Prop :=
  match f with
  | .ret v => Q (.ret v) s₂
  | .brk => Q .next s₂
  | _ => LedEnd h₀ L J I oI pD s₁ s₂
theorem LedEnd.intro {L : Addr} {J : (Str → Option Value) → List (Addr × Obj) → Prop} {I : Addr} {oI : Obj} {pD : Addr × Obj} {s₁ : Shared} {h' : Heap} {tk : Nat} {m' : Str → Option Value} {led nx : List (Addr × Obj)}
    (F : Fr h₀ L h' m') (N : News h₀ L h' led) (hs : ∀ p ∈ (I, oI) :: nx, p ∈ led) (hI : ∀ p ∈ nx, p.1 ≠ I) (hD : pD ∈ nx) (hJ : J m' nx) : LedEnd h₀ L J I oI pD s₁ { s₁ with heap := h', toks := tk } :=
  ⟨h', tk, m', nx, rfl, F, fun p hp => N p (hs p hp), hI, hD, hJ⟩

theorem iter_led {D : Addr} {vs : List Value} {nn : Nat} {m₀ : Str → Option Value} {news : List (Addr × Obj)} (J : Nat → (Str → Option Value) → List (Addr × Obj) → Prop)
    (hh : A.handled = none) (hl : (D, listOf vs.toArray nn) ∈ news) (F : Fr h₀ env.locals s.heap m₀) (N : News h₀ env.locals s.heap news) (hj : J 0 m₀ news)
    (turn : ∀ i v m₁ news₁ h tk I oI, vs[i]? = some v → (D, listOf vs.toArray nn) ∈ news₁ → (∀ p ∈ news₁, p.1 ≠ I) → (∀ p ∈ news, p.1 < I) → J i m₁ news₁ → Fr h₀ env.locals h (fun y => if y = x then some v else m₁ y) → News h₀ env.locals h ((I, oI) :: news₁) →
      wpAny (model prog w) A (execs body env) (LedPost h₀ env.locals (J (i + 1)) I oI (D, listOf vs.toArray nn) { s with heap := h, toks := tk } Q) E { s with heap := h, toks := tk })
    (done : ∀ m₁ news₁ h tk, (D, listOf vs.toArray nn) ∈ news₁ → J vs.length m₁ news₁ → Fr h₀ env.locals h m₁ → News h₀ env.locals h news₁ → Q .next { s with heap := h, toks := tk }) :
    wpAny (model prog w) A (pyIter (.ref D)) (fun it s₂ => LoopAtV prog w A h₀ env x body Q E it s₂) E s := by
  have got : s.heap.get? D = some (listOf vs.toArray nn) := (N _ hl).1
  have isl : s.heap.IsList D vs.toArray := ⟨_, got, rfl, nn, rfl⟩
  have dne : D ≠ s.heap.objs.size := Nat.ne_of_lt (Heap.lt_size got)
  have low : ∀ p ∈ news, p.1 < s.heap.objs.size := fun p hp => Heap.lt_size (N p hp).1
  refine wpAny_pyIter_list isl ?_
  have W := Walks.list (prog := prog) (w := w) hh s.heap.objs.size D dne vs.toArray
  refine ⟨_, _, _, _, _, _, m₀, news, (fun i m nx => (D, listOf vs.toArray nn) ∈ nx ∧ J i m nx), rfl, W, ?_, ?_, ?_, ⟨⟨_, Heap.get?_push_size _ rfl, rfl, rfl⟩, isl.at fun o e => Heap.get?_push_of_some _ e⟩, F.push _, (fun p hp => ⟨Heap.get?_push_of_some _ (N p hp).1, (N p hp).2⟩), ⟨hl, hj⟩, ?_, ?_⟩
  · intro hm
    rcases List.mem_cons.mp hm with e | hm
    · exact absurd F.ns.lt (e ▸ Nat.lt_irrefl _)
    · exact (N _ hl).2.1 (List.mem_singleton.mp hm).symm
  · intro b hb
    rw [List.mem_singleton.mp hb]
    exact next_is_new F
  · intro p hp hI
    have := low p hp
    rw [List.mem_singleton.mp hI] at this
    exact Nat.lt_irrefl _ this
  · rintro i v m₁ news₁ s₁ own ⟨hh', tk', rfl⟩ hin hP ⟨hl₁, hJ⟩ hoff hown hget hfp hst F₁ N₁
    have hv : vs[i]? = some v := by simpa using hP
    obtain ⟨⟨oI, hoI, _⟩, _⟩ := hst
    have hIo : (s.heap.objs.size, oI) ∈ own := hfp _ (by simp) (next_is_new F) oI hoI
    have hne : ∀ p ∈ news₁, p.1 ≠ s.heap.objs.size := fun p hp e => hoff p hp (by rw [e]; exact List.mem_singleton.mpr rfl)
    have N₂ : News h₀ env.locals hh' ((s.heap.objs.size, oI) :: news₁) := fun p hp => by
      rcases List.mem_cons.mp hp with rfl | hp
      · exact N₁ _ (List.mem_append.mpr (.inl hIo))
      · exact N₁ _ (List.mem_append.mpr (.inr hp))
    have hlo : hh'.get? D = some (listOf vs.toArray nn) := (N₁ _ (List.mem_append.mpr (.inr hl₁))).1
    refine wpAny_mono (turn i v m₁ news₁ hh' tk' _ oI hv hl₁ hne low hJ F₁ N₂) (fun f s₂ p => ?_) fun _ _ e => e
    have fin : LedEnd h₀ env.locals (J (i + 1)) s.heap.objs.size oI (D, listOf vs.toArray nn) { s with heap := hh', toks := tk' } s₂ →
        LoopStepU h₀ env.locals [s.heap.objs.size] own (fun m nx => (D, listOf vs.toArray nn) ∈ nx ∧ J (i + 1) m nx) { s with heap := hh', toks := tk' } .next s₂ := by
      rintro ⟨h', tk, m', nx, e, F', N', hI', hD', hJ'⟩
      refine ⟨rfl, h', tk, m', nx, e, F', fun p hp => ?_, fun p hp hw => hI' p hp (List.mem_singleton.mp hw), hD', hJ'⟩
      rcases List.mem_append.mp hp with h | h
      · have hg := hget p h
        rcases List.mem_cons.mp (hown p h) with h2 | h2
        · have : p = (s.heap.objs.size, oI) := Prod.ext h2 (by rw [h2, hoI] at hg; exact (Option.some.inj hg).symm)
          rw [this]; exact N' _ (.head _)
        · have h2' := List.mem_singleton.mp h2
          have : p = (D, listOf vs.toArray nn) := Prod.ext h2' (by rw [h2', hlo] at hg; exact (Option.some.inj hg).symm)
          rw [this]; exact N' _ (.tail _ hD')
      · exact N' _ (.tail _ h)
    cases f with
    | ret v => exact .ret p
    | brk => exact .brk p
    | next => exact .next (fin p)
    | cont => exact .cont (fin p)
  · rintro h' tk m' news' F' N' _ ⟨hl', hJ⟩
    exact done m' news' h' tk hl' (by simpa using hJ) F' N'
end

/-- the plain loop of the matcher -/
def elLoop (got : Str) : List Str → Nat → Nat → Bool
  | [], _, _ => true
  | w :: ws, st, en => match occurrences got w st en 1 with
    | i :: _ => elLoop got ws (i + w.length) en
    | [] => false
abbrev dots : Str := Str.ofString "..."
def ellTail (got : Str) (ws : List Str) (v0 : Int) : Bool :=
  if (ws.getD (-1 + (ws.length : Int)).toNat Str.empty).length = 0 then
    (if (got.length : Int) < v0 then false else elLoop got ws v0.toNat (got.length : Int).toNat)
  else if Txt.endswith got (ws.getD (-1 + (ws.length : Int)).toNat Str.empty) then
    (if (got.length : Int) - ((ws.getD (-1 + (ws.length : Int)).toNat Str.empty).length : Int) < v0 then false
     else elLoop got ws.dropLast v0.toNat ((got.length : Int) - ((ws.getD (-1 + (ws.length : Int)).toNat Str.empty).length : Int)).toNat)
  else false
def ellB (got : Str) (ws : List Str) : Bool :=
  if (ws.getD 0 Str.empty).length = 0 then ellTail got ws 0
  else if Txt.startswith got (ws.getD 0 Str.empty) then ellTail got (ws.drop 1) ((ws.getD 0 Str.empty).length : Int)
  else false
def ellM (want got : Str) : Bool :=
  if (occurrences want (Str.ofString "...") 0 want.length 1).isEmpty then want == got else ellB got (Txt.split want (Str.ofString "..."))

/-! the matcher's own steps -/
theorem split_len {l : List (Str × Tok)} {x : Str} (h : l.map (·.1) = Txt.split x dots) : l.length ≤ x.length + 2 := by
  have hl : l.length = (Txt.split x dots).length := by rw [← h]; simp
  rw [hl]
  unfold Txt.split
  split
  · simp
  · split
    · simp
    · rw [StrLaws.partsBetween_eq]
      have : ∀ (cuts : List Nat) (a w : Nat), (StrLaws.partsFrom x w a cuts).length = cuts.length + 1 := by
        intro cuts
        induction cuts with
        | nil => intro a w; rfl
        | cons c r ih => intro a w; simp [StrLaws.partsFrom, ih]
      rw [this]
      have := StrLaws.occ_length_le x dots 0 x.length (x.length + 1)
      omega
theorem erase_last {α : Type} : ∀ l : List α, l.eraseIdx (l.length - 1) = l.dropLast
  | [] => rfl
  | [_] => rfl
  | a :: b :: r => by
    have ih := erase_last (b :: r)
    simp only [List.length_cons, Nat.add_sub_cancel] at ih ⊢
    rw [List.eraseIdx_cons_succ, List.dropLast_cons_cons, ih]
theorem getD_len {ys : List Str} {B : Nat} (h : ∀ a ∈ ys, a.length ≤ B) (n : Nat) : (ys.getD n Str.empty).length ≤ B := by
  rw [List.getD_eq_getElem?_getD]
  cases e : ys[n]? with
  | none => exact Nat.zero_le _
  | some a => exact h a (List.mem_of_getElem? e)
theorem seqIndex_last {n : Nat} (h : 1 ≤ n) : seqIndex? (-1) n = some (n - 1) := by
  rw [seqIndex_neg (by omega) (by omega)]; congr 1; omega
theorem seqIndex_zero {n : Nat} (h : 1 ≤ n) : seqIndex? 0 n = some 0 := by
  rw [StrLaws.seqIndex_nonneg (by omega) (by omega)]; rfl
section
variable {prog : Program} {w : World} {A : Around} {E : Value → Shared → Prop} {s : Shared} {h₀ : Heap} {L D : Addr} {m : Str → Option Value} {news news' : List (Addr × Obj)}
theorem del_first {l : List (Str × Tok)} {n B : Nat} {u : Tok} {Q : Unit → Shared → Prop} (F : Fr h₀ L s.heap m) (N : News h₀ L s.heap news)
    (hB : ∀ a ∈ l.map (·.1), a.length ≤ B) (hz : l.length ≤ 100000) (h1 : 1 ≤ l.length)
    (U : Upd D (listOf (strValues l).toArray n) (listOf (strValues (l.drop 1)).toArray (n + 1)) news news')
    (h : ∀ h', Fr h₀ L h' m → News h₀ L h' news' → h'.IsList D (strValues (l.drop 1)).toArray → StrsAre (strValues (l.drop 1)) ((l.drop 1).map (·.1)) → (∀ a ∈ (l.drop 1).map (·.1), a.length ≤ B) → (l.drop 1).length + 1 = l.length → Q () { s with heap := h' }) :
    wpAny (model prog w) A (delItem (.ref D) (.int 0 u)) Q E s :=
  del_strs F N hB hz (by decide) (seqIndex_zero h1) h1 (by cases l <;> rfl) U h
theorem del_last {l : List (Str × Tok)} {n B : Nat} {u : Tok} {Q : Unit → Shared → Prop} (F : Fr h₀ L s.heap m) (N : News h₀ L s.heap news)
    (hB : ∀ a ∈ l.map (·.1), a.length ≤ B) (hz : l.length ≤ 100000) (h1 : 1 ≤ l.length)
    (U : Upd D (listOf (strValues l).toArray n) (listOf (strValues l.dropLast).toArray (n + 1)) news news')
    (h : ∀ h', Fr h₀ L h' m → News h₀ L h' news' → h'.IsList D (strValues l.dropLast).toArray → StrsAre (strValues l.dropLast) (l.dropLast.map (·.1)) → (∀ a ∈ l.dropLast.map (·.1), a.length ≤ B) → l.dropLast.length + 1 = l.length → Q () { s with heap := h' }) :
    wpAny (model prog w) A (delItem (.ref D) (.int (-1) u)) Q E s :=
  del_strs F N hB hz (by decide) (seqIndex_last h1) (by omega) (erase_last l) U h
end
section
variable {prog : Program} {w : World} {A : Around} {E : Value → Shared → Prop} {s : Shared} {env : Env} {h₀ : Heap} {body : List Stmt} {Q : Flow → Shared → Prop}
def ElJ (got : Str) (ys : List Str) (en : Nat) (R : Bool) (m₀ : Str → Option Value) (news : List (Addr × Obj)) (i : Nat) (m : Str → Option Value) (nx : List (Addr × Obj)) : Prop :=
  nx = news ∧ ∃ (u : Option Value) (st : Nat) (v : Int) (t : Tok), v = st ∧ (m = fun z => if z = Str.ofString "w" then u else if z = Str.ofString "startpos" then some (.int v t) else m₀ z) ∧ elLoop got (ys.drop i) st en = R
theorem ell_iter {D : Addr} {l : List (Str × Tok)} {nn B : Nat} {got : Str} {v0 ve : Int} {t0 te tg : Tok} {m₀ : Str → Option Value} {news : List (Addr × Obj)}
    (hh : A.handled = none) (hl : (D, listOf (strValues l).toArray nn) ∈ news) (F : Fr h₀ env.locals s.heap m₀) (N : News h₀ env.locals s.heap news)
    (hB : ∀ a ∈ l.map (·.1), a.length ≤ B) (_hgot : m₀ (Str.ofString "got") = some (.str got tg)) (_hend : m₀ (Str.ofString "endpos") = some (.int ve te)) (hm0 : m₀ (Str.ofString "startpos") = some (.int v0 t0)) (hv0 : 0 ≤ v0)
    (turn : ∀ i y t st (v : Int) ts h tk I oI, y.length ≤ B → v = (st : Nat) → (∀ p ∈ news, p.1 < I) → elLoop got (y :: (l.map (·.1)).drop (i + 1)) st ve.toNat = elLoop got (l.map (·.1)) v0.toNat ve.toNat →
      Fr h₀ env.locals h (fun z => if z = Str.ofString "w" then some (.str y t) else if z = Str.ofString "startpos" then some (.int v ts) else m₀ z) → News h₀ env.locals h ((I, oI) :: news) →
      wpAny (model prog w) A (execs body env) (LedPost h₀ env.locals (ElJ got (l.map (·.1)) ve.toNat (elLoop got (l.map (·.1)) v0.toNat ve.toNat) m₀ news (i + 1)) I oI (D, listOf (strValues l).toArray nn) { s with heap := h, toks := tk } Q) E { s with heap := h, toks := tk })
    (done : ∀ u (v : Int) ts h tk, elLoop got (l.map (·.1)) v0.toNat ve.toNat = true → Fr h₀ env.locals h (fun z => if z = Str.ofString "w" then u else if z = Str.ofString "startpos" then some (.int v ts) else m₀ z) → News h₀ env.locals h news → Q .next { s with heap := h, toks := tk }) :
    wpAny (model prog w) A (pyIter (.ref D)) (fun it s₂ => LoopAtV prog w A h₀ env (Str.ofString "w") body Q E it s₂) E s := by
  refine iter_led (ElJ got (l.map (·.1)) ve.toNat (elLoop got (l.map (·.1)) v0.toNat ve.toNat) m₀ news) hh hl F N ⟨rfl, m₀ (Str.ofString "w"), v0.toNat, v0, t0, by omega, ?_, rfl⟩ ?_ ?_
  · funext z
    by_cases h1 : z = Str.ofString "w"
    · rw [if_pos h1, h1]
    · by_cases h2 : z = Str.ofString "startpos"
      · rw [if_neg h1, if_pos h2, h2]; exact hm0
      · rw [if_neg h1, if_neg h2]
  · rintro i v m₁ news₁ h tk I oI hv hD hne low ⟨rfl, u, st, v1, t1, hv1, rfl, hR⟩ F₁ N₁
    have hi : i < l.length := by
      have := (List.getElem?_eq_some_iff.mp hv).1
      simpa [strValues] using this
    have hval : v = .str l[i].1 l[i].2 := by
      have : (strValues l)[i]? = some (.str l[i].1 l[i].2) := by simp [strValues, hi]
      rw [this] at hv; exact (Option.some.inj hv).symm
    subst hval
    have hdrop : (l.map (·.1)).drop i = l[i].1 :: (l.map (·.1)).drop (i + 1) := by
      rw [List.drop_eq_getElem_cons (by simpa using hi)]; simp
    rw [hdrop] at hR
    refine turn i l[i].1 l[i].2 st v1 t1 h tk I oI (hB _ (List.mem_map.mpr ⟨l[i], List.getElem_mem hi, rfl⟩)) hv1 low hR ?_ N₁
    have e : (fun y => if y = Str.ofString "w" then some (Value.str l[i].1 l[i].2) else (fun z => if z = Str.ofString "w" then u else if z = Str.ofString "startpos" then some (Value.int v1 t1) else m₀ z) y)
        = fun z => if z = Str.ofString "w" then some (Value.str l[i].1 l[i].2) else if z = Str.ofString "startpos" then some (Value.int v1 t1) else m₀ z := by
      funext z
      by_cases h1 : z = Str.ofString "w"
      · rw [if_pos h1, if_pos h1]
      · rw [if_neg h1, if_neg h1]; dsimp only; rw [if_neg h1]
    rw [← e]; exact F₁
  · rintro m₁ news₁ h tk hD ⟨rfl, u, st, v1, t1, hv1, rfl, hR⟩ F₁ N₁
    refine done u v1 t1 h tk ?_ F₁ N₁
    rw [← hR]
    have : (l.map (·.1)).drop (strValues l).length = [] := by simp [strValues]
    rw [this]; rfl
theorem ell_end {I : Addr} {oI : Obj} {pD : Addr × Obj} {got y : Str} {ys : List Str} {R : Bool} {i st en k : Nat} {rest : List Nat} {v : Int} {t : Tok} {m₀ m' : Str → Option Value} {news led : List (Addr × Obj)} {L : Addr} {h' : Heap} {tk : Nat} {s₁ : Shared}
    (hr : elLoop got (y :: ys.drop (i + 1)) st en = R) (he : occurrences got y st en 1 = k :: rest) (F : Fr h₀ L h' m') (N : News h₀ L h' led)
    (hm : m' (Str.ofString "startpos") = some (.int v t)) (hv : v = (k : Int) + (y.length : Int)) (hm' : ∀ z, z ≠ Str.ofString "w" → z ≠ Str.ofString "startpos" → m' z = m₀ z)
    (hsub : ∀ p ∈ (I, oI) :: news, p ∈ led) (low : ∀ p ∈ news, p.1 < I) (hD : pD ∈ news) :
    LedEnd h₀ L (ElJ got ys en R m₀ news (i + 1)) I oI pD s₁ { s₁ with heap := h', toks := tk } := by
  refine .intro F N hsub (fun p hp => Nat.ne_of_lt (low p hp)) hD ⟨rfl, m' (Str.ofString "w"), k + y.length, v, t, by omega, ?_, ?_⟩
  · funext z
    by_cases h1 : z = Str.ofString "w"
    · rw [if_pos h1, h1]
    · by_cases h2 : z = Str.ofString "startpos"
      · rw [if_neg h1, if_pos h2, h2]; exact hm
      · rw [if_neg h1, if_neg h2]; exact hm' z h1 h2
  · rw [← hr]
    simp only [elLoop, he]
end

section
variable {want got y : Str} {l l1 : List (Str × Tok)} {v0 : Int}
theorem ell_no (h : (occurrences want (Str.ofString "...") 0 want.length 1).isEmpty = true) : (want == got) = ellM want got := by
  unfold ellM; rw [if_pos h]
theorem ell_startno (h : (occurrences want (Str.ofString "...") 0 want.length 1).isEmpty = false) (hl : l.map (·.1) = Txt.split want (Str.ofString "...")) (hy : (l.map (·.1))[Int.toNat 0]? = some y)
    (hy1 : y.length ≠ 0) (hs : Txt.startswith got y = false) : ellM want got = false := by
  have hd : (l.map (·.1)).getD 0 Str.empty = y := by rw [List.getD_eq_getElem?_getD]; rw [show (l.map (·.1))[0]? = some y from hy]; rfl
  unfold ellM; rw [if_neg (by rw [h]; exact Bool.false_ne_true), ← hl]; unfold ellB; rw [hd, if_neg hy1, hs]; rfl
theorem ell_tail1 (h : (occurrences want (Str.ofString "...") 0 want.length 1).isEmpty = false) (hl : l.map (·.1) = Txt.split want (Str.ofString "...")) (hy : (l.map (·.1))[Int.toNat 0]? = some y)
    (hy1 : y.length ≠ 0) (hs : Txt.startswith got y = true) : ellM want got = ellTail got ((l.drop 1).map (·.1)) (y.length : Int) := by
  have hd : (l.map (·.1)).getD 0 Str.empty = y := by rw [List.getD_eq_getElem?_getD]; rw [show (l.map (·.1))[0]? = some y from hy]; rfl
  unfold ellM; rw [if_neg (by rw [h]; exact Bool.false_ne_true), ← hl]; unfold ellB; rw [hd, if_neg hy1, if_pos hs, List.map_drop]
theorem ell_tail0 (h : (occurrences want (Str.ofString "...") 0 want.length 1).isEmpty = false) (hl : l.map (·.1) = Txt.split want (Str.ofString "...")) (hy : (l.map (·.1))[Int.toNat 0]? = some y)
    (hy0 : y.length = 0) : ellM want got = ellTail got (l.map (·.1)) 0 := by
  have hd : (l.map (·.1)).getD 0 Str.empty = y := by rw [List.getD_eq_getElem?_getD]; rw [show (l.map (·.1))[0]? = some y from hy]; rfl
  unfold ellM; rw [if_neg (by rw [h]; exact Bool.false_ne_true), ← hl]; unfold ellB; rw [hd, if_pos hy0]
abbrev lastOf (l : List (Str × Tok)) : Str := (l.map (·.1)).getD (-1 + ((l.map (·.1)).length : Int)).toNat Str.empty
theorem tail_no (h1 : (lastOf l1).length ≠ 0) (he : Txt.endswith got (lastOf l1) = false) : ellTail got (l1.map (·.1)) v0 = false := by
  unfold ellTail; rw [if_neg h1, he]; rfl
theorem tail_gt (h1 : (lastOf l1).length ≠ 0) (he : Txt.endswith got (lastOf l1) = true) (hg : (got.length : Int) - ((lastOf l1).length : Int) < v0) : ellTail got (l1.map (·.1)) v0 = false := by
  unfold ellTail; rw [if_neg h1, if_pos he, if_pos hg]
theorem tail_loop (h1 : (lastOf l1).length ≠ 0) (he : Txt.endswith got (lastOf l1) = true) (hg : ¬ (got.length : Int) - ((lastOf l1).length : Int) < v0) :
    ellTail got (l1.map (·.1)) v0 = elLoop got (l1.dropLast.map (·.1)) v0.toNat ((got.length : Int) - ((lastOf l1).length : Int)).toNat := by
  unfold ellTail; rw [if_neg h1, if_pos he, if_neg hg, List.map_dropLast]
theorem tail_gt0 (h1 : (lastOf l1).length = 0) (hg : (got.length : Int) < v0) : ellTail got (l1.map (·.1)) v0 = false := by
  unfold ellTail; rw [if_pos h1, if_pos hg]
theorem tail_loop0 (h1 : (lastOf l1).length = 0) (hg : ¬ (got.length : Int) < v0) : ellTail got (l1.map (·.1)) v0 = elLoop got (l1.map (·.1)) v0.toNat (got.length : Int).toNat := by
  unfold ellTail; rw [if_pos h1, if_neg hg]
theorem loop_none {ws : List Str} {st en st0 en0 : Nat} {ws0 : List Str} (hr : elLoop got (y :: ws) st en = elLoop got ws0 st0 en0) (he : occurrences got y st en 1 = []) : elLoop got ws0 st0 en0 = false := by
  rw [← hr]; simp only [elLoop, he]
theorem split_ge2 (h : (occurrences want (Str.ofString "...") 0 want.length 1).isEmpty = false) (hl : l.map (·.1) = Txt.split want (Str.ofString "...")) : 2 ≤ l.length := by
  have hll : l.length = (Txt.split want (Str.ofString "...")).length := by rw [← hl]; simp
  rw [hll]
  have hf := (StrLaws.found_iff want (Str.ofString "...")).mp (by rw [h]; rfl)
  obtain ⟨i, hi, hs⟩ := hf
  have hne : (occurrences want (Str.ofString "...") 0 want.length (want.length + 1)).isEmpty = false := by
    rcases StrLaws.occ_head want (Str.ofString "...") (want.length + 1) (by omega) with ⟨h1, h2⟩ | ⟨a, r, h1, _⟩
    · exact absurd ⟨hi, hs⟩ (h2 i)
    · rw [h1]; rfl
  have hk := kind_le want (Str.ofString "...") hs
  unfold Txt.split
  rw [if_neg (by simp; exact ⟨by omega, hk⟩)]
  rw [if_neg (by rw [hne]; exact Bool.false_ne_true)]
  rw [StrLaws.partsBetween_eq]
  cases hc : occurrences want (Str.ofString "...") 0 want.length (want.length + 1) with
  | nil => rw [hc] at hne; cases hne
  | cons a r =>
    obtain ⟨p, r', hp⟩ := StrLaws.partsFrom_ne want (Str.ofString "...").length (a + (Str.ofString "...").length) r
    simp only [StrLaws.partsFrom, hp, List.length_cons]; omega
end
end Mine
end
section
open PySem PySem.W PyProof.Rows PySem.Calls
set_option linter.unusedVariables false
set_option maxRecDepth 100000
namespace Mine
open Builtin.Str
section
variable {prog : Program} {w : World} {A : Around} {E : Value → Shared → Prop} {s : Shared} {env : Env} {h₀ : Heap} {L : Addr} {Q : Flow → Shared → Prop}

def WhEnd {σ : Type} (h₀ : Heap) (L : Addr) (J : σ → (Str → Option Value) → List (Addr × Obj) → Prop) (μ : σ → Nat) (c : σ) (s₁ s₂ : Shared) : Prop :=
  ∃ c' h' tk m' nx, s₂ = { s₁ with heap := h', toks := tk } ∧ Fr h₀ L h' m' ∧ News h₀ L h' nx ∧ μ c' < μ c ∧ J c' m' nx
def WhPost {σ : Type} (h₀ : Heap) (L : Addr) (J : σ → (Str → Option Value) → List (Addr × Obj) → Prop) (μ : σ → Nat) (c : σ) (s₁ : Shared) (Q : Flow → Shared → Prop) (f : Flow) (s₂ : Shared) : Prop :=
  match f with
  | .ret v => Q (.ret v) s₂
  | .brk => Q .next s₂
  | _ => WhEnd h₀ L J μ c s₁ s₂
theorem WhEnd.intro {σ : Type} {J : σ → (Str → Option Value) → List (Addr × Obj) → Prop} {μ : σ → Nat} {c : σ} {s₁ : Shared} {h' : Heap} {tk : Nat} {m' : Str → Option Value} {led nx : List (Addr × Obj)} (c' : σ)
    (F : Fr h₀ L h' m') (N : News h₀ L h' led) (hs : ∀ p ∈ nx, p ∈ led) (hm : μ c' < μ c) (hJ : J c' m' nx) : WhEnd h₀ L J μ c s₁ { s₁ with heap := h', toks := tk } :=
  ⟨c', h', tk, m', nx, rfl, F, fun p hp => N p (hs p hp), hm, hJ⟩

theorem while_st {σ : Type} {test : Expr} {body : List Stmt} {pos : Pos} {m₀ : Str → Option Value} {news : List (Addr × Obj)} (J : (Str → Option Value) → List (Addr × Obj) → σ → (Str → Option Value) → List (Addr × Obj) → Prop) (μ : σ → Nat) (c₀ : σ)
    (F : Fr h₀ L s.heap m₀) (N : News h₀ L s.heap news) (hJ : J m₀ news c₀ m₀ news)
    (turn : ∀ c m₁ nx h tk, J m₀ news c m₁ nx → Fr h₀ L h m₁ → News h₀ L h nx →
      wpAny (model prog w) A (isTrue test env (eval test env)) (fun b s₂ =>
        if b = true then wpAny (model prog w) A (execs body env) (WhPost h₀ L (J m₀ news) μ c s Q) E s₂ else Q .next s₂) E { s with heap := h, toks := tk })
    (hE : PassesOwn (model prog w) A env E := by passes_own) :
    wpAny (model prog w) A (exec (.While test body [] pos) env) Q E s := by
  refine While_inv2 (fun n m nx => ∃ c : σ, μ c = n ∧ J m₀ news c m nx) F N ⟨c₀, rfl, hJ⟩ ?_ hE
  rintro n m₁ nx h tk F₁ N₁ ⟨c, rfl, hc⟩
  refine wpAny_mono (turn c m₁ nx h tk hc F₁ N₁) (fun b s₂ p => ?_) fun _ _ x => x
  cases b with
  | false => simpa using p
  | true =>
    simp only [if_true] at p ⊢
    refine wpAny_mono p (fun f s₃ q => ?_) fun _ _ x => x
    cases f with
    | ret v => exact q
    | brk => exact q
    | next => obtain ⟨c', h', tk', m', nx', rfl, F', N', hm, hj⟩ := q; exact ⟨h', tk', m', nx', μ c', rfl, F', N', hm, c', rfl, hj⟩
    | cont => obtain ⟨c', h', tk', m', nx', rfl, F', N', hm, hj⟩ := q; exact ⟨h', tk', m', nx', μ c', rfl, F', N', hm, c', rfl, hj⟩
end

/-! a frame's map with some names turned -/
theorem up1_of {m m' : Str → Option Value} {a : Str} {va : Option Value} (ha : m' a = va) (ho : ∀ z, z ≠ a → m' z = m z) : m' = fun z => if z = a then va else m z := by
  funext z
  by_cases h : z = a
  · rw [if_pos h, h, ha]
  · rw [if_neg h, ho z h]
theorem up2_of {m m' : Str → Option Value} {a b : Str} {va vb : Option Value} (ha : m' a = va) (hb : m' b = vb) (ho : ∀ z, z ≠ a → z ≠ b → m' z = m z) :
    m' = fun z => if z = a then va else if z = b then vb else m z :=
  up1_of ha fun z h => by
    by_cases h1 : z = b
    · rw [if_pos h1, h1, hb]
    · rw [if_neg h1, ho z h h1]
theorem up3_of {m m' : Str → Option Value} {a b c : Str} {va vb vc : Option Value} (ha : m' a = va) (hb : m' b = vb) (hc : m' c = vc) (ho : ∀ z, z ≠ a → z ≠ b → z ≠ c → m' z = m z) :
    m' = fun z => if z = a then va else if z = b then vb else if z = c then vc else m z :=
  up1_of ha fun z h => by
    have := congrFun (up2_of (m := fun y => if y = a then m' y else m y) (m' := m') hb hc (fun z h1 h2 => by
      by_cases h3 : z = a
      · rw [if_pos h3]
      · rw [if_neg h3, ho z h3 h1 h2])) z
    rw [this]
    by_cases h1 : z = b
    · rw [if_pos h1, if_pos h1]
    · rw [if_neg h1, if_neg h1]
      by_cases h2 : z = c
      · rw [if_pos h2, if_pos h2]
      · rw [if_neg h2, if_neg h2, if_neg h]

/-! the reply's reader -/
def unq : List Nat → List Nat
  | [] => []
  | [c] => if c = 34 then [] else [c]
  | c :: d :: r => if c = 34 then (if d = 34 then 34 :: unq r else []) else c :: unq (d :: r)
theorem unq_other {c : Nat} {r : List Nat} (h : c ≠ 34) : unq (c :: r) = c :: unq r := by
  cases r with
  | nil => simp [unq, h]
  | cons d r => simp [unq, h]
theorem unq_two {r : List Nat} : unq (34 :: 34 :: r) = 34 :: unq r := by simp [unq]
theorem unq_end {d : Nat} {r : List Nat} (h : d ≠ 34) : unq (34 :: d :: r) = [] := by simp [unq, h]
theorem unq_last : unq [34] = [] := by simp [unq]
theorem item_one {x : Str} {v : Int} {i : Nat} (hv : v = i) (hi : i < x.length) : ∃ c, Txt.item x v = ⟨#[c]⟩ ∧ x.cps.toList.drop i = c :: x.cps.toList.drop (i + 1) := by
  have hi' : i < x.cps.toList.length := by simpa [Str.length] using hi
  refine ⟨x.cps.toList[i], ?_, List.drop_eq_getElem_cons hi'⟩
  unfold Txt.item Txt.charAt
  rw [hv, StrLaws.seqIndex_nonneg (by omega) (by omega)]
  have : x.cps[i]? = some x.cps.toList[i] := by
    rw [← Array.getElem?_toList]; exact List.getElem?_eq_getElem hi'
  simp [this]
theorem quote_eq : Str.ofString "\"" = ⟨#[34]⟩ := by decide +kernel
theorem one_beq {c d : Nat} : ((⟨#[c]⟩ : Str) == ⟨#[d]⟩) = decide (c = d) := by
  rw [Bool.eq_iff_iff]; simp
theorem one_bne {c d : Nat} : ((⟨#[c]⟩ : Str) != ⟨#[d]⟩) = !decide (c = d) := by
  rw [bne, one_beq]

structure PwInv (resp : Str) (R : List Nat) (i : Nat) (d : Str) : Prop where
  le : i ≤ resp.length
  dl : d.length ≤ i
  eq : d.cps.toList ++ unq (resp.cps.toList.drop i) = R
section
variable {resp d : Str} {R : List Nat} {i : Nat} {v : Int}
theorem pw_done (H : PwInv resp R i d) (hv : v = i) (h : ¬ v < (resp.length : Int)) : d = ⟨R.toArray⟩ := by
  have h2 := H.eq
  have : resp.cps.toList.drop i = [] := List.drop_eq_nil_of_le (by simp [Str.length] at h; simp; omega)
  rw [this] at h2
  refine Str.ext' ?_
  rw [← h2]; simp [unq]
theorem pw_brk1 (H : PwInv resp R i d) (hv : v = i) (h : v < (resp.length : Int)) (hc : (Txt.item resp v == Str.ofString "\"") = true) (h2 : v + 1 ≥ (resp.length : Int)) : d = ⟨R.toArray⟩ := by
  obtain ⟨c, e1, e2⟩ := item_one (x := resp) hv (by omega)
  rw [e1, quote_eq, one_beq] at hc
  have hc' : c = 34 := by simpa using hc
  have h3 := H.eq
  have : resp.cps.toList.drop (i + 1) = [] := List.drop_eq_nil_of_le (by simp [Str.length] at h2; simp; omega)
  rw [e2, this, hc', unq_last] at h3
  refine Str.ext' ?_
  rw [← h3]; simp
theorem pw_brk2 (H : PwInv resp R i d) (hv : v = i) (h : v < (resp.length : Int)) (hc : (Txt.item resp v == Str.ofString "\"") = true) (h2 : ¬ v + 1 ≥ (resp.length : Int)) (hd : (Txt.item resp (v + 1) != Str.ofString "\"") = true) : d = ⟨R.toArray⟩ := by
  obtain ⟨c, e1, e2⟩ := item_one (x := resp) hv (by omega)
  obtain ⟨b, e3, e4⟩ := item_one (v := v + 1) (i := i + 1) (x := resp) (by omega) (by omega)
  rw [e1, quote_eq, one_beq] at hc
  rw [e3, quote_eq, one_bne] at hd
  have hc' : c = 34 := by simpa using hc
  have hb : b ≠ 34 := by simpa using hd
  have h3 := H.eq
  rw [e2, e4, hc', unq_end hb] at h3
  refine Str.ext' ?_
  rw [← h3]; simp
theorem pw_two (H : PwInv resp R i d) (hv : v = i) (h : v < (resp.length : Int)) (hc : (Txt.item resp v == Str.ofString "\"") = true) (h2 : ¬ v + 1 ≥ (resp.length : Int)) (hd : (Txt.item resp (v + 1) != Str.ofString "\"") = false) : PwInv resp R (i + 2) (d ++ Txt.item resp v) := by
  obtain ⟨c, e1, e2⟩ := item_one (x := resp) hv (by omega)
  obtain ⟨b, e3, e4⟩ := item_one (v := v + 1) (i := i + 1) (x := resp) (by omega) (by omega)
  rw [e1, quote_eq, one_beq] at hc
  rw [e3, quote_eq, one_bne] at hd
  have hc' : c = 34 := by simpa using hc
  have hb : b = 34 := by simpa using hd
  refine ⟨by omega, by rw [Str.length_append, e1]; have := H.dl; show d.length + 1 ≤ _; omega, ?_⟩
  have h3 := H.eq
  rw [e2, e4, hc', hb, unq_two] at h3
  rw [e1, Str.cps_append, Array.toList_append, ← h3, hc']
  simp
theorem pw_one (H : PwInv resp R i d) (hv : v = i) (h : v < (resp.length : Int)) (hc : (Txt.item resp v == Str.ofString "\"") = false) : PwInv resp R (i + 1) (d ++ Txt.item resp v) := by
  obtain ⟨c, e1, e2⟩ := item_one (x := resp) hv (by omega)
  rw [e1, quote_eq, one_beq] at hc
  have hc' : c ≠ 34 := by simpa using hc
  refine ⟨by omega, by rw [Str.length_append, e1]; have := H.dl; show d.length + 1 ≤ _; omega, ?_⟩
  have h3 := H.eq
  rw [e2, unq_other hc'] at h3
  rw [e1, Str.cps_append, Array.toList_append, ← h3]
  simp
end
def PwJ (resp : Str) (R : List Nat) (m₀ : Str → Option Value) (news : List (Addr × Obj)) (c : Nat × Str) (m : Str → Option Value) (nx : List (Addr × Obj)) : Prop :=
  nx = news ∧ ∃ (v : Int) (u : Option Value) (ti td : Tok), v = c.1 ∧ PwInv resp R c.1 c.2 ∧
    m = fun z => if z = Str.ofString "i" then some (.int v ti) else if z = Str.ofString "dirname" then some (.str c.2 td) else if z = Str.ofString "c" then u else m₀ z
theorem pw_end {resp : Str} {R : List Nat} {h₀ : Heap} {L : Addr} {m₀ m' : Str → Option Value} {news : List (Addr × Obj)} {c c' : Nat × Str} {s₁ : Shared} {h' : Heap} {tk : Nat} {v : Int} {ti td : Tok}
    (F : Fr h₀ L h' m') (N : News h₀ L h' news) (hI : PwInv resp R c'.1 c'.2) (hlt : resp.length - c'.1 < resp.length - c.1) (hi : m' (Str.ofString "i") = some (.int v ti)) (hv : v = c'.1) (hd : m' (Str.ofString "dirname") = some (.str c'.2 td))
    (ho : ∀ z, z ≠ Str.ofString "i" → z ≠ Str.ofString "dirname" → z ≠ Str.ofString "c" → m' z = m₀ z) :
    WhEnd h₀ L (PwJ resp R m₀ news) (fun c => resp.length - c.1) c s₁ { s₁ with heap := h', toks := tk } :=
  .intro c' F N (fun _ h => h) hlt ⟨rfl, v, m' (Str.ofString "c"), ti, td, hv, hI, up3_of hi hd rfl ho⟩

/-! lists of ints in the ledger, by their items -/
def iv (l : List (Int × Tok)) : List Value := l.map fun p => .int p.1 p.2
theorem iv_len (l : List (Int × Tok)) : (iv l).length = l.length := by simp [iv]
theorem iv_append (a b : List (Int × Tok)) : iv (a ++ b) = iv a ++ iv b := by simp [iv]
theorem ints_of_iv : ∀ l : List (Int × Tok), IntsAre (iv l) (l.map (·.1))
  | [] => .nil
  | p :: r => .cons p.1 p.2 (ints_of_iv r)
theorem iv_of_ints {vs : List Value} {ns : List Int} (h : IntsAre vs ns) : ∃ l : List (Int × Tok), vs = iv l ∧ l.map (·.1) = ns := by
  induction h with
  | nil => exact ⟨[], rfl, rfl⟩
  | cons n t _ ih => obtain ⟨l, rfl, rfl⟩ := ih; exact ⟨(n, t) :: l, rfl, rfl⟩
theorem klast_snoc (y : Value) : ∀ l : List Value, kl_last (l ++ [y]) = some (l, y)
  | [] => rfl
  | x :: r => by show (match kl_last (r ++ [y]) with | some (p, z) => some (x :: p, z) | none => some ([], x)) = _; rw [klast_snoc y r]
section
variable {prog : Program} {w : World} {A : Around} {E : Value → Shared → Prop} {s : Shared} {h₀ : Heap} {L D b : Addr} {m : Str → Option Value} {news news' : List (Addr × Obj)} {n n2 : Nat} {vs us : List Value} {y : Value}
theorem pop_led {Q : Value → Shared → Prop} (F : Fr h₀ L s.heap m) (N : News h₀ L s.heap news) (U : Upd D (listOf (vs ++ [y]).toArray n) (listOf vs.toArray (n + 1)) news news') (hz : vs.length ≤ 100000)
    (h : ∀ h', Fr h₀ L h' m → News h₀ L h' news' → Q y { s with heap := h' }) : wpAny (model prog w) A (call (.builtin "list.pop") [.ref D]) Q E s :=
  kl_pop (its := (vs ++ [y]).toArray) F N (klast_snoc y vs) U (by rw [sizeLine_eq]; simp; omega) h
theorem extend_led {Q : Value → Shared → Prop} (F : Fr h₀ L s.heap m) (N : News h₀ L s.heap news) (hb : (b, listOf us.toArray n2) ∈ news) (hne : us.length ≠ 0)
    (U : Upd D (listOf vs.toArray n) (listOf (vs ++ us).toArray (n + 1)) news news') (hz : vs.length + us.length ≤ 100000)
    (h : ∀ h', Fr h₀ L h' m → News h₀ L h' news' → Q .none { s with heap := h' }) : wpAny (model prog w) A (call (.builtin "list.extend") [.ref D, .ref b]) Q E s :=
  kl_extend (its := vs.toArray) (its2 := us.toArray) F N hb rfl (by simpa using hne) U
    (by
      have : Builtin.List.listTooLong (vs.toArray.size + us.toArray.size) = false := by
        unfold Builtin.List.listTooLong; simp [sizeLine_eq]; omega
      rw [this]; simp) (by rw [sizeLine_eq]; simp; omega) (by rw [sizeLine_eq]; simp; omega) h
theorem last_led {value slice : Expr} {u : Tok} {Q : Value → Shared → Prop} (N : News h₀ L s.heap news) (hm : (D, listOf (vs ++ [y]).toArray n) ∈ news) (hz : vs.length ≤ 100000) (h : Q y s)
    (hs : subscripted slice false (.ref D) (.int (-1) u) = operate [.ref D, .int (-1) u] (getItem (.ref D) (.int (-1) u)) := by with_unfolding_all rfl) :
    wpAny (model prog w) A (subscriptTail value slice (.ref D) (.int (-1) u)) Q E s := by
  have hl : s.heap.IsList D (vs ++ [y]).toArray := ⟨_, (N _ hm).1, rfl, n, rfl⟩
  refine tail_any hl.typeIs slot_list_getitem.lookup (wpAny_getItem_list_neg hl (by omega) (by simp; omega) (by omega) ?_ h) hs
  have : ((-1 : Int) + ((vs ++ [y]).toArray.size : Int)).toNat = vs.length := by simp; omega
  rw [this]; simp
theorem item_led {value slice : Expr} {k : Int} {u : Tok} {Q : Value → Shared → Prop} (N : News h₀ L s.heap news) (hm : (D, listOf vs.toArray n) ∈ news) (h0 : 0 ≤ k) (hk : k < 2 ^ 63) (hx : vs[k.toNat]? = some y) (h : Q y s)
    (hs : subscripted slice false (.ref D) (.int k u) = operate [.ref D, .int k u] (getItem (.ref D) (.int k u)) := by with_unfolding_all rfl) :
    wpAny (model prog w) A (subscriptTail value slice (.ref D) (.int k u)) Q E s := by
  have hl : s.heap.IsList D vs.toArray := ⟨_, (N _ hm).1, rfl, n, rfl⟩
  exact tail_any hl.typeIs slot_list_getitem.lookup (wpAny_getItem_list hl h0 hk (by simpa using hx) h) hs
end

/-! the pile's speller -/
section
variable {pl ql : List (Int × Tok)} {s0 s1 d : Str} {R : List Nat} {xs : List (Int × Tok)} {t : Tok}
end
/-! a contract of KE.KCallBy's form, used -/
theorem cb_use {prog : Program} {w : World} {K : Frag} {p : Program} {loose : List Str} {mean : ExcName → Option Value} {mg mb : Str → Option Value} {f : Addr} {news : List (Addr × Obj)} {pre : Prop} {vs : List Value} {R : Tok → Value}
    {dp un : Nat} {gd : Option (List Code)} {cn : Str} {cs : Scope} {a : Addr} {ccd : Value} {cl : List (Str × Addr)} {outer : List Env} {A₀ : Around} {base h₀ : Heap} {L : Addr} {m : Str → Option Value} {s : Shared} {Q E : Value → Shared → Prop}
    (C : CbClaim prog w K p loose mean mg mb f news [] pre vs R) (B : Below A₀ base outer h₀) (F : Fr h₀ L s.heap m) (X : K.In h₀) (N : News h₀ L s.heap news) (T : Top p loose mean mg mb h₀) (hk : cs.kind = .function)
    (hp : pre) (hd : dp + 1 < recursionLimit) (hu : un + 8 < cLine) (ret : ∀ (t : Tok) (h' : Heap) (tk' : Nat), Fr h₀ L h' m → News h₀ L h' news → Q (R t) { s with heap := h', toks := tk' }) :
    wpAny (model prog w) (ktrTop dp un gd cn cs L a ccd cl outer) (call (.ref f) vs) Q E s := C _ _ _ _ _ _ _ _ _ _ _ _ _ _ _ _ _ B F X N T hk hp hd hu ret
end Mine
end
section
open PySem PySem.W PyProof.Rows PySem.Calls
set_option linter.unusedVariables false
set_option maxRecDepth 100000
namespace Mine
open Builtin.Str
section
variable {prog : Program} {w : World} {A : Around} {E : Value → Shared → Prop} {s : Shared} {env : Env} {h₀ : Heap} {x : Str} {body : List Stmt} {Q : Flow → Shared → Prop}

def RgEnd (h₀ : Heap) (L : Addr) (J : (Str → Option Value) → List (Addr × Obj) → Prop) (I : Addr) (oI : Obj) (s₁ s₂ : Shared) : Prop :=
  ∃ h' tk m' nx, s₂ = { s₁ with heap := h', toks := tk } ∧ Fr h₀ L h' m' ∧ News h₀ L h' ((I, oI) :: nx) ∧ (∀ p ∈ nx, p.1 ≠ I) ∧ J m' nx
def RgPost (h₀ : Heap) (L : Addr) (J : (Str → Option Value) → List (Addr × Obj) → Prop) (I : Addr) (oI : Obj) (s₁ : Shared) (Q : Flow → Shared → Prop) (f : Flow) (s₂ : Shared) : Prop :=
  match f with
  | .ret v => Q (.ret v) s₂
  | .brk => Q .next s₂
  | _ => RgEnd h₀ L J I oI s₁ s₂
theorem RgEnd.intro {L : Addr} {J : (Str → Option Value) → List (Addr × Obj) → Prop} {I : Addr} {oI : Obj} {s₁ : Shared} {h' : Heap} {tk : Nat} {m' : Str → Option Value} {led nx : List (Addr × Obj)}
    (F : Fr h₀ L h' m') (N : News h₀ L h' led) (hs : ∀ p ∈ (I, oI) :: nx, p ∈ led) (hI : ∀ p ∈ nx, p.1 ≠ I) (hJ : J m' nx) : RgEnd h₀ L J I oI s₁ { s₁ with heap := h', toks := tk } :=
  ⟨h', tk, m', nx, rfl, F, fun p hp => N p (hs p hp), hI, hJ⟩

theorem iter_rng {r : Addr} {a₀ b₀ : Int} {t₀ u₀ v₀ : Tok} {n : Nat} {m₀ : Str → Option Value} {news : List (Addr × Obj)} (J : (Str → Option Value) → List (Addr × Obj) → Nat → (Str → Option Value) → List (Addr × Obj) → Prop)
    (hh : A.handled = none) (hr : IsRange s.heap r a₀ b₀ 1 t₀ u₀ v₀) (hsmall : Builtin.Range.small a₀ b₀ 1 = true) (hn : Builtin.Range.rangeSize a₀ b₀ 1 = (n : Int)) (F : Fr h₀ env.locals s.heap m₀) (N : News h₀ env.locals s.heap news) (hj : J m₀ news 0 m₀ news)
    (turn : ∀ i t m₁ news₁ h tk I oI, i < n → J m₀ news i m₁ news₁ → (∀ p ∈ news₁, p.1 ≠ I) → (∀ p ∈ news, p.1 < I) → Fr h₀ env.locals h (fun y => if y = x then some (.int (a₀ + (i : Int)) t) else m₁ y) → News h₀ env.locals h ((I, oI) :: news₁) →
      wpAny (model prog w) A (execs body env) (RgPost h₀ env.locals (J m₀ news (i + 1)) I oI { s with heap := h, toks := tk } Q) E { s with heap := h, toks := tk })
    (done : ∀ m₁ news₁ h tk, J m₀ news n m₁ news₁ → Fr h₀ env.locals h m₁ → News h₀ env.locals h news₁ → Q .next { s with heap := h, toks := tk }) :
    wpAny (model prog w) A (pyIter (.ref r)) (fun it s₂ => LoopAtV prog w A h₀ env x body Q E it s₂) E s := by
  have low : ∀ p ∈ news, p.1 < s.heap.objs.size := fun p hp => Heap.lt_size (N p hp).1
  refine wpAny_pyIter_range hr hsmall ?_
  have W := Walks.range (prog := prog) (w := w) hh s.heap.objs.size a₀ 1 n
  refine ⟨_, _, _, _, _, _, m₀, news, J m₀ news, rfl, W, ?_, ?_, ?_, by show IsRangeIter _ _ _ _ _; rw [hn]; simpa using Heap.get?_push_size _ rfl, F.push _, (fun p hp => ⟨Heap.get?_push_of_some _ (N p hp).1, (N p hp).2⟩), hj, ?_, ?_⟩
  · intro hm
    exact absurd F.ns.lt ((List.mem_singleton.mp hm) ▸ Nat.lt_irrefl _)
  · intro b hb
    rw [List.mem_singleton.mp hb]
    exact next_is_new F
  · intro p hp hI
    have := low p hp
    rw [List.mem_singleton.mp hI] at this
    exact Nat.lt_irrefl _ this
  · rintro i v m₁ news₁ s₁ own ⟨hh', tk', rfl⟩ hin ⟨t, rfl⟩ hJ hoff hown hget hfp hst F₁ N₁
    obtain ⟨oI, hoI⟩ : ∃ o, hh'.get? s.heap.objs.size = some o := ⟨_, hst⟩
    have hIo := hfp _ (by simp) (next_is_new F) oI hoI
    have hne : ∀ p ∈ news₁, p.1 ≠ s.heap.objs.size := fun p hp e => hoff p hp (by rw [e]; exact List.mem_singleton.mpr rfl)
    have N₂ : News h₀ env.locals hh' ((s.heap.objs.size, oI) :: news₁) := fun p hp => by
      rcases List.mem_cons.mp hp with rfl | hp
      · exact N₁ _ (List.mem_append.mpr (.inl hIo))
      · exact N₁ _ (List.mem_append.mpr (.inr hp))
    have e1 : a₀ + (i : Int) * 1 = a₀ + (i : Int) := by omega
    rw [e1] at F₁
    refine wpAny_mono (turn i t m₁ news₁ hh' tk' _ oI hin hJ hne low F₁ N₂) (fun f s₂ p => ?_) fun _ _ e => e
    have fin : RgEnd h₀ env.locals (J m₀ news (i + 1)) s.heap.objs.size oI { s with heap := hh', toks := tk' } s₂ →
        LoopStepU h₀ env.locals [s.heap.objs.size] own (J m₀ news (i + 1)) { s with heap := hh', toks := tk' } .next s₂ := by
      rintro ⟨h', tk, m', nx, e, F', N', hI', hJ'⟩
      refine ⟨rfl, h', tk, m', nx, e, F', fun p hp => ?_, fun p hp hw => hI' p hp (List.mem_singleton.mp hw), hJ'⟩
      rcases List.mem_append.mp hp with h | h
      · have hg := hget p h
        have h2 := List.mem_singleton.mp (hown p h)
        have : p = (s.heap.objs.size, oI) := Prod.ext h2 (by rw [h2, hoI] at hg; exact (Option.some.inj hg).symm)
        rw [this]; exact N' _ (.head _)
      · exact N' _ (.tail _ h)
    cases f with
    | ret v => exact .ret p
    | brk => exact .brk p
    | next => exact .next (fin p)
    | cont => exact .cont (fin p)
  · rintro h' tk m' news' F' N' _ hJ
    exact done m' news' h' tk hJ F' N'
end
theorem range_n {a b : Int} {n : Nat} (h : b - a = n) : Builtin.Range.rangeSize a b 1 = (n : Int) := by
  rw [rangeSize_one]; split <;> omega

/-! a loop over a written list whose turns store nothing -/
section
variable {prog : Program} {w : World} {A : Around} {E : Value → Shared → Prop} {s : Shared} {env : Env} {h₀ : Heap} {x : Str} {body : List Stmt} {Q : Flow → Shared → Prop}
def PureJ (x : Str) (m₀ : Str → Option Value) (news : List (Addr × Obj)) (m : Str → Option Value) (nx : List (Addr × Obj)) : Prop := nx = news ∧ ∃ u : Option Value, m = fun y => if y = x then u else m₀ y
theorem iter_pure {D : Addr} {vs : List Value} {nn : Nat} {m₀ : Str → Option Value} {news : List (Addr × Obj)}
    (hh : A.handled = none) (hl : (D, listOf vs.toArray nn) ∈ news) (F : Fr h₀ env.locals s.heap m₀) (N : News h₀ env.locals s.heap news)
    (turn : ∀ v ∈ vs, ∀ h tk I oI, (∀ p ∈ news, p.1 < I) → Fr h₀ env.locals h (fun y => if y = x then some v else m₀ y) → News h₀ env.locals h ((I, oI) :: news) →
      wpAny (model prog w) A (execs body env) (LedPost h₀ env.locals (PureJ x m₀ news) I oI (D, listOf vs.toArray nn) { s with heap := h, toks := tk } Q) E { s with heap := h, toks := tk })
    (done : ∀ u h tk, Fr h₀ env.locals h (fun y => if y = x then u else m₀ y) → News h₀ env.locals h news → Q .next { s with heap := h, toks := tk }) :
    wpAny (model prog w) A (pyIter (.ref D)) (fun it s₂ => LoopAtV prog w A h₀ env x body Q E it s₂) E s := by
  refine iter_led (fun _ => PureJ x m₀ news) hh hl F N ⟨rfl, m₀ x, up1_of rfl fun _ _ => rfl⟩ ?_ ?_
  · rintro i v m₁ news₁ h tk I oI hv hD hne low ⟨rfl, u, rfl⟩ F₁ N₁
    refine turn v (List.mem_of_getElem? hv) h tk I oI low ?_ N₁
    have e : (fun y => if y = x then some v else (fun y => if y = x then u else m₀ y) y) = fun y => if y = x then some v else m₀ y := by
      funext y
      by_cases h1 : y = x
      · rw [if_pos h1, if_pos h1]
      · rw [if_neg h1, if_neg h1]; dsimp only; rw [if_neg h1]
    rw [← e]; exact F₁
  · rintro m₁ news₁ h tk hD ⟨rfl, u, rfl⟩ F₁ N₁
    exact done u h tk F₁ N₁
theorem pure_end {I L : Addr} {oI : Obj} {pD : Addr × Obj} {m₀ m' : Str → Option Value} {news led : List (Addr × Obj)} {s₁ : Shared} {h' : Heap} {tk : Nat}
    (F : Fr h₀ L h' m') (N : News h₀ L h' led) (hs : ∀ p ∈ (I, oI) :: news, p ∈ led) (low : ∀ p ∈ news, p.1 < I) (hD : pD ∈ news) (ho : ∀ z, z ≠ x → m' z = m₀ z) :
    LedEnd h₀ L (PureJ x m₀ news) I oI pD s₁ { s₁ with heap := h', toks := tk } :=
  .intro F N hs (fun p hp => Nat.ne_of_lt (low p hp)) hD ⟨rfl, m' x, up1_of rfl ho⟩
end
end Mine
namespace Mine
section
variable {M : Model} {A : Around} {E : Value → Shared → Prop} {s : Shared} {h₀ : Heap} {L : Addr} {m : Str → Option Value} {news : List (Addr × Obj)}
def IntBack (h₀ : Heap) (L : Addr) (m : Str → Option Value) (news : List (Addr × Obj)) (s : Shared) (P : Int → Prop) (v : Value) (s' : Shared) : Prop :=
  ∃ c t h' tk, v = .int c t ∧ s' = { s with heap := h', toks := tk } ∧ Fr h₀ L h' m ∧ News h₀ L h' news ∧ P c
theorem IntBack.intro {P : Int → Prop} {c : Int} {t : Tok} {h' : Heap} {tk : Nat} {led : List (Addr × Obj)} (F : Fr h₀ L h' m) (N : News h₀ L h' led) (hs : ∀ p ∈ news, p ∈ led) (hP : P c) : IntBack h₀ L m news s P (.int c t) { s with heap := h', toks := tk } :=
  ⟨c, t, h', tk, rfl, rfl, F, fun p hp => N p (hs p hp), hP⟩
end
end Mine
end
section
open PySem PySem.W PyProof.Rows PySem.Calls
set_option linter.unusedVariables false
set_option maxRecDepth 100000
namespace Mine
open Builtin.Str StrLaws
abbrev tl (x : Str) : List Nat := x.cps.toList
theorem tl_len (x : Str) : (tl x).length = x.length := by simp [Str.length]
theorem tl_app (x y : Str) : tl (x ++ y) = tl x ++ tl y := by simp [tl, Str.cps_append]
theorem tl_inj {x y : Str} (h : tl x = tl y) : x = y := Str.ext' (Array.toList_inj.mp h)
theorem tl_dots : tl (Str.ofString "...") = [46, 46, 46] := by decide +kernel
theorem str_beq (x y : Str) : (x == y) = decide (tl x = tl y) := by
  rw [Bool.eq_iff_iff, beq_iff_eq, decide_eq_true_eq]
  exact ⟨fun h => by rw [h], tl_inj⟩
theorem at_iff {g w : Str} {hi i : Nat} : At g w hi i ↔ i + w.length ≤ hi ∧ ((tl g).drop i).take w.length = tl w := by
  unfold At
  rw [subAt_eq]
  simp
theorem occ1_spec (g w : Str) (st en : Nat) : (occurrences g w st en 1 = [] ∧ ∀ i, st ≤ i → ¬ At g w en i) ∨
    ∃ i r, occurrences g w st en 1 = i :: r ∧ st ≤ i ∧ At g w en i ∧ ∀ k, st ≤ k → k < i → ¬ At g w en k := by
  rw [occ_eq]
  rcases occ_first g w en 1 (Nat.le_refl _) (List.range' st (en + 1 - st)) st (fun i hi => by have := List.mem_range'_1.mp hi; omega) with ⟨h0, hn⟩ | ⟨pre, a, post, e, h0, ha, hn⟩
  · refine .inl ⟨by rw [h0], fun i hlo hi => ?_⟩
    exact hn i (by have := hi.1; rw [List.mem_range'_1]; omega) hi
  · have hs := range'_split_from e
    generalize harr : (forIn (List.range' st (en + 1 - st)) ((#[] : Array Nat), st) (occBody g w en 1)).run.fst = arr at h0
    have h1 : arr.toList[0]? = some a := by simpa using h0
    cases hL : arr.toList with
    | nil => rw [hL] at h1; cases h1
    | cons b t =>
      rw [hL] at h1
      have hb : b = a := by simpa using h1
      exact .inr ⟨a, t, by rw [hb], hs.1, ha, fun k hk0 hk => hn k (hs.2 k hk0 hk)⟩
/-- the first place -/
theorem occ1_cons {g w : Str} {st en i : Nat} (h1 : st ≤ i) (h2 : At g w en i) (h3 : ∀ k, st ≤ k → k < i → ¬ At g w en k) : ∃ r, occurrences g w st en 1 = i :: r := by
  rcases occ1_spec g w st en with ⟨_, hn⟩ | ⟨j, r, e, hj, ha, hm⟩
  · exact absurd h2 (hn i h1)
  · have : j = i := by
      rcases Nat.lt_trichotomy j i with h | h | h
      · exact absurd ha (h3 j hj h)
      · exact h
      · exact absurd h2 (hm i h1 h)
    exact ⟨r, this ▸ e⟩
/-! no dots, no dots' place -/
/-! the split of what was joined -/
def joinD : List (List Nat) → List Nat
  | [] => []
  | [p] => p
  | p :: q :: r => p ++ [46, 46, 46] ++ joinD (q :: r)
theorem drop_at {l : List Nat} {a k : Nat} {p q : List Nat} (h : l.drop a = p ++ q) (hk : k ≤ p.length) : l.drop (a + k) = p.drop k ++ q := by
  rw [← List.drop_drop, h, List.drop_append_of_le_length hk]
theorem chain_parts {x : Str} : ∀ (ps : List (List Nat)) (a f : Nat) (cuts : List Nat), ps ≠ [] → (∀ p ∈ ps, 46 ∉ p) → a ≤ x.length → (tl x).drop a = joinD ps →
    ChainG x (Str.ofString "...") x.length a cuts f → (∀ k, f ≤ k → ¬ At x (Str.ofString "...") x.length k) → (partsFrom x 3 a cuts).map tl = ps
  | [], _, _, _, h, _, _, _, _, _ => absurd rfl h
  | [p], a, f, cuts, _, hp, ha, e, hc, hn => by
    have e' : (tl x).drop a = p := e
    have none : ∀ k, a ≤ k → ¬ At x (Str.ofString "...") x.length k := by
      intro k hk hA
      rw [at_iff, tl_dots] at hA
      apply hp p (.head _)
      rw [← e']
      have h1 : (46 : Nat) ∈ ((tl x).drop k).take (Str.ofString "...").length := by rw [hA.2]; simp
      have h2 := List.mem_of_mem_take h1
      have h3 : (tl x).drop k = ((tl x).drop a).drop (k - a) := by rw [List.drop_drop]; congr 1; omega
      rw [h3] at h2
      exact List.mem_of_mem_drop h2
    cases cuts with
    | nil =>
      show [tl (strSub x a x.length)] = [p]
      have h1 : x.length - a = ((tl x).drop a).length := by rw [List.length_drop, tl_len]
      have : tl (strSub x a x.length) = p := by
        show (strSub x a x.length).cps.toList = p
        rw [strSub_toList, h1, List.take_length]; exact e'
      rw [this]
    | cons c r => exact absurd hc.2.1 (none c hc.1)
  | p :: q :: r, a, f, cuts, _, hp, ha, e, hc, hn => by
    have e' : (tl x).drop a = p ++ ([46, 46, 46] ++ joinD (q :: r)) := by rw [e]; simp [joinD]
    have hlen : (tl x).length - a = p.length + (3 + (joinD (q :: r)).length) := by
      have := congrArg List.length e'
      simp only [List.length_drop, List.length_append, List.length_cons, List.length_nil] at this
      omega
    have hx := tl_len x
    have d3 : (Str.ofString "...").length = 3 := by decide +kernel
    have hat : At x (Str.ofString "...") x.length (a + p.length) := by
      rw [at_iff, d3, tl_dots]
      refine ⟨by omega, ?_⟩
      rw [drop_at e' (Nat.le_refl _)]; simp
    have before : ∀ k, a ≤ k → k < a + p.length → ¬ At x (Str.ofString "...") x.length k := by
      intro k hk hlt hA
      rw [at_iff, tl_dots] at hA
      have h1 := drop_at (k := k - a) e' (by omega)
      rw [show a + (k - a) = k from by omega] at h1
      have hne : p.drop (k - a) ≠ [] := by
        intro h0
        have := List.drop_eq_nil_iff.mp h0
        omega
      obtain ⟨b, t, hb⟩ := List.exists_cons_of_ne_nil hne
      rw [h1, hb, d3] at hA
      have h2 : b = 46 := by
        have := hA.2
        simp at this
        exact this.1
      apply hp p (.head _)
      have : b ∈ p.drop (k - a) := by rw [hb]; exact .head _
      rw [h2] at this
      exact List.mem_of_mem_drop this
    cases cuts with
    | nil =>
      have hf : f = a := hc
      exact absurd hat (hn _ (by omega))
    | cons c cs =>
      have hceq : c = a + p.length := by
        rcases Nat.lt_trichotomy c (a + p.length) with h | h | h
        · exact absurd hc.2.1 (before c hc.1 h)
        · exact h
        · exact absurd hat (hc.2.2.1 _ (by omega) h)
      have hrest := hc.2.2.2
      rw [d3] at hrest
      have ih := chain_parts (q :: r) (c + 3) f cs (by simp) (fun z hz => hp z (.tail _ hz)) (by omega) (by
        rw [hceq]
        have : a + p.length + 3 = a + (p.length + 3) := by omega
        rw [this, ← List.drop_drop, e']
        simp [← List.drop_drop]) hrest hn
      show tl (strSub x a c) :: (partsFrom x 3 (c + 3) cs).map tl = _
      rw [ih]
      congr 1
      show (strSub x a c).cps.toList = p
      rw [strSub_toList, hceq, show a + p.length - a = p.length from by omega]
      show ((tl x).drop a).take p.length = p
      rw [e']; simp
theorem split_join {x : Str} {ps : List (List Nat)} (h2 : 2 ≤ ps.length) (hp : ∀ p ∈ ps, 46 ∉ p) (e : tl x = joinD ps) :
    (occurrences x (Str.ofString "...") 0 x.length 1).isEmpty = false ∧ (Txt.split x (Str.ofString "...")).map tl = ps := by
  have d3 : (Str.ofString "...").length = 3 := by decide +kernel
  obtain ⟨p, q, r, rfl⟩ : ∃ p q r, ps = p :: q :: r := by
    match ps, h2 with
    | p :: q :: r, _ => exact ⟨p, q, r, rfl⟩
  have e' : tl x = p ++ ([46, 46, 46] ++ joinD (q :: r)) := by rw [e]; simp [joinD]
  have hx := tl_len x
  have hlen := congrArg List.length e'
  simp only [List.length_append, List.length_cons, List.length_nil] at hlen
  have hat : At x (Str.ofString "...") x.length p.length := by
    rw [at_iff, d3, tl_dots]
    refine ⟨by omega, ?_⟩
    rw [e']; simp
  obtain ⟨f, hc, hn⟩ := occ_tight x (Str.ofString "...") (by rw [d3]; omega)
  have hparts := chain_parts (p :: q :: r) 0 f _ (by simp) hp (Nat.zero_le _) (by simpa using e) hc hn
  have hne : (occurrences x (Str.ofString "...") 0 x.length (x.length + 1)) ≠ [] := by
    intro h0
    rw [h0] at hparts
    simp [partsFrom] at hparts
  constructor
  · rcases occ1_spec x (Str.ofString "...") 0 x.length with ⟨_, h0⟩ | ⟨i, r, h0, _⟩
    · exact absurd hat (h0 _ (Nat.zero_le _))
    · rw [h0]; rfl
  · unfold Txt.split
    have hk := kind_le x (Str.ofString "...") hat.2
    rw [if_neg (by simp; exact ⟨by omega, hk⟩), if_neg (by simpa using hne), partsBetween_eq, d3]
    exact hparts

/-! the matcher's answer on parts without dots -/
theorem ell_parts {want got : Str} {ps : List (List Nat)} (h2 : 2 ≤ ps.length) (hp : ∀ p ∈ ps, 46 ∉ p) (e : tl want = joinD ps) :
    ∃ ws : List Str, ws.map tl = ps ∧ ellM want got = ellB got ws := by
  obtain ⟨h, hs⟩ := split_join h2 hp e
  refine ⟨_, hs, ?_⟩
  unfold ellM
  rw [if_neg (by rw [h]; exact Bool.false_ne_true)]
theorem starts_eq (g w : Str) : Txt.startswith g w = decide ((tl g).take w.length = tl w) := by
  unfold Txt.startswith
  rw [subAt_eq, Bool.eq_iff_iff]
  simp only [Bool.and_eq_true, decide_eq_true_eq, beq_iff_eq, List.drop_zero]
  constructor
  · exact fun h => h.2
  · intro h
    refine ⟨?_, h⟩
    have := congrArg List.length h
    simp only [List.length_take, tl_len] at this
    omega
theorem ends_eq {g w : Str} (hw : w.length ≤ g.length) : Txt.endswith g w = decide ((tl g).drop (g.length - w.length) = tl w) := by
  unfold Txt.endswith
  rw [subAt_eq, Bool.eq_iff_iff]
  simp only [Bool.and_eq_true, decide_eq_true_eq, beq_iff_eq]
  have : (List.drop (g.length - w.length) (tl g)).take w.length = List.drop (g.length - w.length) (tl g) := by
    apply List.take_of_length_le
    rw [List.length_drop, tl_len]; omega
  rw [this]
  exact ⟨fun h => h.2, fun h => ⟨by omega, h⟩⟩
theorem ends_long {g w : Str} (hw : g.length < w.length) : Txt.endswith g w = false := by
  unfold Txt.endswith
  have h1 : ¬ (0 + w.length ≤ g.length) := by omega
  rw [decide_eq_false h1, Bool.false_and]

def rep (k : Nat) (w : List Nat) : List Nat := (List.replicate k w).flatten
theorem rep_succ (k : Nat) (w : List Nat) : rep (k + 1) w = w ++ rep k w := by simp [rep, List.replicate_succ]
theorem rep_one (w : List Nat) : rep 1 w = w := by simp [rep]

theorem len0_tl {x : Str} (h : x.length = 0) : tl x = [] := by
  have := tl_len x; rw [h] at this; exact List.eq_nil_of_length_eq_zero this
theorem at_empty {g e : Str} (he : e.length = 0) {hi i : Nat} (h : i ≤ hi) : At g e hi i := by
  rw [at_iff, he, len0_tl he]; exact ⟨by omega, by simp⟩
theorem loop_empty {g e : Str} (he : e.length = 0) {ws : List Str} {st en : Nat} (h : st ≤ en) : elLoop g (e :: ws) st en = elLoop g ws st en := by
  obtain ⟨r, e1⟩ := occ1_cons (g := g) (w := e) (st := st) (en := en) (i := st) (Nat.le_refl _) (at_empty he h) (fun k h1 h2 => by omega)
  simp only [elLoop, e1, he, Nat.add_zero]
/-- two parts -/
theorem ell_two {want got : Str} {u v : List Nat} (hu : 46 ∉ u) (hv : 46 ∉ v) (e : tl want = u ++ [46, 46, 46] ++ v) :
    ellM want got = decide (u.length + v.length ≤ got.length ∧ (tl got).take u.length = u ∧ (tl got).drop (got.length - v.length) = v) := by
  obtain ⟨ws, hws, hm⟩ := ell_parts (got := got) (ps := [u, v]) (by simp) (fun p hp => by
    rcases List.mem_cons.mp hp with rfl | hp
    · exact hu
    · rw [List.mem_singleton.mp hp]; exact hv) e
  obtain ⟨a, b, rfl⟩ : ∃ a b, ws = [a, b] := by
    match ws, congrArg List.length hws with
    | [a, b], _ => exact ⟨a, b, rfl⟩
  obtain ⟨ha, hb⟩ : tl a = u ∧ tl b = v := by simpa using hws
  subst ha hb
  have hgl := tl_len got
  rw [hm, tl_len, tl_len]
  unfold ellB
  have h0 : [a, b].getD 0 Str.empty = a := rfl
  have hl2 : [a, b].getD (-1 + ([a, b].length : Int)).toNat Str.empty = b := rfl
  have hl1 : [b].getD (-1 + ([b].length : Int)).toNat Str.empty = b := rfl
  rw [h0]
  by_cases hA : a.length = 0
  · rw [if_pos hA]
    unfold ellTail
    rw [hl2]
    by_cases hB : b.length = 0
    · rw [if_pos hB, if_neg (by omega), loop_empty hA (by omega), loop_empty hB (by omega)]
      simp only [elLoop]
      symm; rw [decide_eq_true_eq, hA, hB, len0_tl hA, len0_tl hB]
      exact ⟨by omega, by simp, by simp [hgl]⟩
    · rw [if_neg hB]
      by_cases hlong : got.length < b.length
      · rw [ends_long hlong]
        symm; simp only [Bool.false_eq_true, if_false]
        rw [decide_eq_false_iff_not]; intro h; omega
      · rw [ends_eq (by omega)]
        by_cases hE : (tl got).drop (got.length - b.length) = tl b
        · rw [decide_eq_true hE, if_pos rfl, if_neg (by omega)]
          show elLoop got [a] _ _ = _
          rw [loop_empty hA (by omega)]
          simp only [elLoop]
          symm; rw [decide_eq_true_eq, hA, len0_tl hA]
          exact ⟨by omega, by simp, hE⟩
        · rw [decide_eq_false hE]
          symm; simp only [Bool.false_eq_true, if_false]
          rw [decide_eq_false_iff_not]; intro h; exact hE h.2.2
  · rw [if_neg hA, starts_eq]
    by_cases hS : (tl got).take a.length = tl a
    · have hal : a.length ≤ got.length := by
        have := congrArg List.length hS
        rw [List.length_take, tl_len, tl_len] at this; omega
      rw [decide_eq_true hS, if_pos rfl]
      show ellTail got [b] _ = _
      unfold ellTail
      rw [hl1]
      by_cases hB : b.length = 0
      · rw [if_pos hB, if_neg (by omega), loop_empty hB (by omega)]
        simp only [elLoop]
        symm; rw [decide_eq_true_eq, hB, len0_tl hB]
        exact ⟨by omega, hS, by simp [hgl]⟩
      · rw [if_neg hB]
        by_cases hlong : got.length < b.length
        · rw [ends_long hlong]
          symm; simp only [Bool.false_eq_true, if_false]
          rw [decide_eq_false_iff_not]; intro h; omega
        · rw [ends_eq (by omega)]
          by_cases hE : (tl got).drop (got.length - b.length) = tl b
          · rw [decide_eq_true hE, if_pos rfl]
            by_cases hg : (got.length : Int) - (b.length : Int) < (a.length : Int)
            · rw [if_pos hg]
              symm; rw [decide_eq_false_iff_not]; intro h; omega
            · rw [if_neg hg]
              show elLoop got [] _ _ = _
              simp only [elLoop]
              symm; rw [decide_eq_true_eq]
              exact ⟨by omega, hS, hE⟩
          · rw [decide_eq_false hE]
            symm; simp only [Bool.false_eq_true, if_false]
            rw [decide_eq_false_iff_not]; intro h; exact hE h.2.2
    · rw [decide_eq_false hS]
      symm; simp only [Bool.false_eq_true, if_false]
      rw [decide_eq_false_iff_not]; intro h; exact hS h.2.1
end Mine
end
section
open PySem PySem.W PyProof.Rows PySem.Calls
set_option linter.unusedVariables false
set_option maxRecDepth 100000
namespace Mine
open Builtin.Str StrLaws
/-! doubling one sign keeps it -/
end Mine
end
section
open PySem PySem.W PyProof.Rows PySem.Calls
set_option linter.unusedVariables false
set_option maxRecDepth 100000
namespace Mine
open Builtin.Str StrLaws
theorem slice_txt (x : Str) (l u : Option Int) : Txt.slice x l u = sliceText x l u := rfl
theorem slice_to {x : Str} {j : Int} (h : 0 ≤ j ∧ j ≤ x.length) : tl (Txt.slice x none (some j)) = (tl x).take j.toNat := by
  rw [slice_txt, sliceText_to ⟨h.1, by rw [← tl_len] at h; exact h.2⟩]
  simp [tl]
section
variable {t : Str}
end

section
variable {prog : Program} {w : World} {A : Around} {E : Value → Shared → Prop} {s : Shared} {h₀ : Heap} {L D b : Addr} {m : Str → Option Value} {news news' : List (Addr × Obj)}
end
theorem cb_pre {prog : Program} {w : World} {K : Frag} {p : Program} {loose : List Str} {mean : ExcName → Option Value} {mg mb : Str → Option Value} {f : Addr} {news : List (Addr × Obj)} {pre : Prop} {vs : List Value} {R : Tok → Value}
    (C : CbClaim prog w K p loose mean mg mb f news [] pre vs R) (h : pre) : CbClaim prog w K p loose mean mg mb f news [] True vs R := by
  intro dp un gd cn cs a ccd cl outer A₀ base h₀ L m s Q E B F X N T hk _
  exact C dp un gd cn cs a ccd cl outer A₀ base h₀ L m s Q E B F X N T hk h

end Mine
end
section
open PySem PySem.W PyProof.Rows PySem.Calls
set_option linter.unusedVariables false
set_option maxRecDepth 100000
namespace Mine
open Builtin.Str StrLaws
/-! law 1's end, over words -/
section
variable {f : Nat → Nat} (hf : ∀ a b, f a = f b → a = b)
include hf
end
end Mine
end
section
open PySem PySem.W PyProof.Rows PySem.Calls
set_option linter.unusedVariables false
set_option maxRecDepth 100000
namespace Mine
theorem setL_of : ∀ (l : List Value) (k : Nat) (v : Value), k < l.length → ki_setL l k v = some (l.set k v)
  | [], _, _, h => by simp at h
  | _ :: _, 0, _, _ => rfl
  | x :: r, k + 1, v, h => by
    have ih := setL_of r k v (by simpa using h)
    simp only [ki_setL, ih, List.set_cons_succ]
theorem iv_set (cs : List (Int × Tok)) (k : Nat) (v : Int) (t : Tok) : (iv cs).set k (.int v t) = iv (cs.set k (v, t)) := by
  unfold iv; rw [List.map_set]
section
variable {prog : Program} {w : World} {A : Around} {E : Value → Shared → Prop} {s : Shared} {h₀ : Heap} {L D : Addr} {m : Str → Option Value} {news news' : List (Addr × Obj)} {n : Nat} {cs : List (Int × Tok)}
theorem cell_getI {k : Int} {u : Tok} {Q : Value → Shared → Prop} (N : News h₀ L s.heap news) (hm : (D, listOf (iv cs).toArray n) ∈ news) (h0 : 0 ≤ k) (hk : k < (cs.length : Int)) (hn : cs.length ≤ 1000) (hp : ∀ p ∈ cs, 0 ≤ p.1)
    (h : ∀ c t, 0 ≤ c → cs[k.toNat]? = some (c, t) → Q (.int c t) s) :
    wpAny (model prog w) A (getItem (.ref D) (.int k u)) Q E s := by
  have hlt : k.toNat < cs.length := by omega
  have e : cs[k.toNat]? = some cs[k.toNat] := List.getElem?_eq_getElem hlt
  have hl : s.heap.IsList D (iv cs).toArray := ⟨_, (N _ hm).1, rfl, n, rfl⟩
  exact wpAny_getItem_list hl h0 (by omega) (by simp [iv, hlt]) (h _ _ (hp _ (List.getElem_mem hlt)) e)
end
theorem fmod_range (a : Int) {b : Int} (hb : 0 < b) : 0 ≤ a.fmod b ∧ a.fmod b < b := by
  rw [Int.fmod_eq_emod_of_nonneg _ (by omega)]
  exact ⟨Int.emod_nonneg _ (by omega), Int.emod_lt_of_pos _ hb⟩
section
variable {prog : Program} {w : World} {A : Around} {E : Value → Shared → Prop} {s : Shared} {h₀ : Heap} {L D : Addr} {m : Str → Option Value} {news news' : List (Addr × Obj)} {n : Nat} {s0 s1 : Str} {t0 t1 : Tok}
end
end Mine
end
section
open PySem PySem.W PyProof.Rows PySem.Calls
set_option linter.unusedVariables false
set_option maxRecDepth 100000
namespace Mine
open Builtin.Str StrLaws
theorem foldl_app (w : Array Nat) : ∀ (n : Nat) (acc : Array Nat), ((List.replicate n w).foldl (· ++ ·) acc).toList = acc.toList ++ rep n w.toList
  | 0, acc => by simp [rep]
  | n + 1, acc => by rw [List.replicate_succ, List.foldl_cons, foldl_app w n, rep_succ, Array.toList_append, List.append_assoc]
theorem tl_mul (x : Str) {n : Int} (h : 0 ≤ n) : tl (Txt.mul x n) = rep n.toNat (tl x) := by
  unfold Txt.mul
  by_cases h0 : n < 1
  · have : n = 0 := by omega
    subst this
    rfl
  rw [if_neg h0]
  by_cases h1 : (n == 1 || x.length == 0) = true
  · rw [if_pos h1]
    simp only [Bool.or_eq_true, beq_iff_eq] at h1
    rcases h1 with h1 | h1
    · subst h1; exact (rep_one _).symm
    · have := len0_tl h1
      rw [this]; simp [rep]
  · rw [if_neg h1]
    show ((List.replicate n.toNat x.cps).foldl (· ++ ·) #[]).toList = _
    rw [foldl_app]; simp
theorem slice_mid {x : Str} {a b : Nat} (h : a ≤ b ∧ b ≤ x.length) : tl (Txt.slice x (some (a : Int)) (some (b : Int))) = ((tl x).drop a).take (b - a) := by
  have hx := tl_len x
  rw [slice_txt, sliceText_plain ⟨by omega, by omega, by simp only [tl] at hx; omega⟩]
  show List.take _ (List.drop _ (tl x)) = _
  congr 1
  omega
theorem bne_tl {x y : Str} (h : tl x = tl y) : (x != y) = false := by
  rw [tl_inj h]; simp
theorem tl_257 : tl (Str.ofString "257 \"") = [50, 53, 55, 32, 34] := by decide +kernel
theorem iv_snoc (l : List (Int × Tok)) (x : Int) (t : Tok) : iv l ++ [Value.int x t] = iv (l ++ [(x, t)]) := by simp [iv]
section
variable {prog : Program} {w : World} {A : Around} {E : Value → Shared → Prop} {s : Shared} {h₀ : Heap} {L D : Addr} {news : List (Addr × Obj)} {n : Nat} {vs : List Value}
theorem len_led {N9 : Nat} {Q : Value → Shared → Prop} (N : News h₀ L s.heap news) (hm : (D, listOf vs.toArray n) ∈ news) (hv : vs.length = N9) (hz : N9 ≤ 100000) (h : ∀ t k, Q (.int (N9 : Int) t) { s with toks := k }) : wpAny (model prog w) A (call (.builtin "len") [.ref D]) Q E s := by
  have hl : s.heap.IsList D vs.toArray := ⟨_, (N _ hm).1, rfl, n, rfl⟩
  refine len_list hl (by simp; omega) ?_
  simp only [List.size_toArray, hv]
  exact h _ _
end
end Mine
end
section
open PySem PySem.W PyProof.Rows PySem.Calls
set_option linter.unusedVariables false
set_option maxRecDepth 100000
namespace Mine
section
variable {prog : Program} {w : World} {A : Around} {E : Value → Shared → Prop} {s : Shared} {env : Env} {h₀ : Heap} {L : Addr} {body : List Stmt} {Q : Flow → Shared → Prop}
end
end Mine
end
section
open PySem PySem.W PyProof.Rows PySem.Calls
set_option linter.unusedVariables false
set_option maxRecDepth 100000
namespace Mine
section
variable {prog : Program} {w : World} {A : Around} {E : Value → Shared → Prop} {s : Shared} {h₀ : Heap} {L a b D : Addr} {m : Str → Option Value} {news : List (Addr × Obj)} {n n2 : Nat}
theorem add_led {l1 l2 : List (Int × Tok)} {Q : Value → Shared → Prop} (F : Fr h₀ L s.heap m) (N : News h₀ L s.heap news) (ha : (a, listOf (iv l1).toArray n) ∈ news) (hb : (b, listOf (iv l2).toArray n2) ∈ news) (hz : l1.length + l2.length ≤ 10000)
    (h : ∀ D h', Fr h₀ L h' m → News h₀ L h' ((D, listOf (iv (l1 ++ l2)).toArray 0) :: news) → (∀ p ∈ news, p.1 < D) → Q (.ref D) { s with heap := h' }) : wpAny (model prog w) A (binaryOp .Add (.ref a) (.ref b)) Q E s := by
  have h1 : s.heap.IsList a (iv l1).toArray := ⟨_, (N _ ha).1, rfl, n, rfl⟩
  have h2 : s.heap.IsList b (iv l2).toArray := ⟨_, (N _ hb).1, rfl, n2, rfl⟩
  refine kmk_add_lit F N h1 h2 (iv_append l1 l2).symm h ?_
  simp only [iv_len, sizeLine_eq]; omega
end
section
variable {U V : List Nat} {i j : Nat} {tx fi se : Str}
end
section
variable {prog : Program} {w : World} {A : Around} {E : Value → Shared → Prop} {s : Shared}
end
section
variable {prog : Program} {w : World} {A : Around} {E : Value → Shared → Prop} {s : Shared} {h₀ : Heap} {L a : Addr} {news : List (Addr × Obj)} {oa : Obj} {xs : List Value} {ka : Nat} {ds : List Dat} {x : Value} {d : Dat} {Q : Value → Shared → Prop}
end
section
variable {prog : Program} {w : World} {A : Around} {E : Value → Shared → Prop} {s : Shared} {x y : Str} {t u : Tok} {Q : Value → Shared → Prop}
end
end Mine
end
section
open PySem PySem.W PyProof.Rows PySem.Calls
set_option linter.unusedVariables false
set_option maxRecDepth 100000
namespace Mine
/-! law 2: the pile's symbols, told as (level, twin) -/
abbrev Sy := (Nat × Nat) × Tok
def syV (step : Int) (n b : Nat) : Int := match n with
  | 0 => 255 - (b : Int)
  | n + 1 => 256 + (n : Int) * step + (b : Int)
def syF : Nat → Nat → List Int
  | 0, b => [255 - (b : Int)]
  | n + 1, b => syF n b ++ syF n (1 - b)
def syW : Nat → Nat
  | 0 => 1
  | n + 1 => 2 * syW n + 1
def syL (step : Int) (xs : List Sy) : List (Int × Tok) := xs.map fun x => (syV step x.1.1 x.1.2, x.2)
def sySum (xs : List Sy) : Nat := (xs.map fun x => syW x.1.1).sum
def syOut (xs : List Sy) : List Int := xs.flatMap fun x => syF x.1.1 x.1.2
structure TyInv (R : List Int) (xs : List Sy) (os : List (Int × Tok)) : Prop where
  dom : ∀ x ∈ xs, x.1.1 ≤ 5 ∧ x.1.2 ≤ 1
  wt : sySum xs ≤ 100
  eq : os.map (·.1) ++ syOut xs = R
theorem syW_pos (n : Nat) : 1 ≤ syW n := by cases n <;> simp [syW]
theorem sy_len : ∀ xs : List Sy, xs.length ≤ sySum xs
  | [] => Nat.zero_le _
  | x :: r => by
    have := sy_len r
    have h := syW_pos x.1.1
    simp only [sySum, List.map_cons, List.sum_cons, List.length_cons] at *
    omega
theorem syF_len : ∀ n b, (syF n b).length = 2 ^ n
  | 0, _ => rfl
  | n + 1, b => by rw [syF, List.length_append, syF_len n, syF_len n, Nat.pow_succ]; omega
section
variable {R : List Int} {xs : List Sy} {os : List (Int × Tok)} {n b : Nat} {t t1 t2 : Tok}
theorem ty_leaf (H : TyInv R (((0, b), t) :: xs) os) (t' : Tok) : TyInv R xs (os ++ [(255 - (b : Int), t')]) := by
  refine ⟨fun x hx => H.dom x (.tail _ hx), Nat.le_trans ?_ H.wt, ?_⟩
  · simp [sySum]
  · rw [← H.eq]; simp [syOut, syF]
theorem ty_node (H : TyInv R (((n + 1, b), t) :: xs) os) : TyInv R (((n, b), t1) :: ((n, 1 - b), t2) :: xs) os := by
  have h0 := H.dom _ (.head _)
  refine ⟨fun x hx => ?_, Nat.le_trans ?_ H.wt, ?_⟩
  · rcases List.mem_cons.mp hx with rfl | hx
    · exact ⟨by have := h0.1; dsimp only at this ⊢; omega, h0.2⟩
    rcases List.mem_cons.mp hx with rfl | hx
    · exact ⟨by have := h0.1; dsimp only at this ⊢; omega, by show 1 - b ≤ 1; omega⟩
    exact H.dom x (.tail _ hx)
  · simp [sySum, syW]; omega
  · rw [← H.eq]; simp [syOut, syF]
theorem ty_wt_leaf : sySum xs < sySum (((0, b), t) :: xs) := by simp [sySum, syW]
theorem ty_wt_node : sySum (((n, b), t1) :: ((n, 1 - b), t2) :: xs) < sySum (((n + 1, b), t) :: xs) := by simp [sySum, syW]; omega
theorem ty_olen (H : TyInv R xs os) : os.length ≤ R.length := by
  have := congrArg List.length H.eq
  simp only [List.length_append, List.length_map] at this
  omega
theorem ty_done (H : TyInv R [] os) : os.map (·.1) = R := by rw [← H.eq]; simp [syOut]
end
theorem ty_start {start step : Int} {t : Tok} {b : Nat} (hb : b ≤ 1) (h : start = 256 + 4 * step + (b : Int)) : syL step [(((5, b), t) : Sy)] = [(start, t)] ∧ TyInv (syF 5 b) [((5, b), t)] [] := by
  refine ⟨by simp [syL, syV, h], ⟨fun x hx => ?_, by simp [sySum, syW], by simp [syOut]⟩⟩
  rw [List.mem_singleton.mp hx]; exact ⟨Nat.le_refl _, hb⟩
section
variable {prog : Program} {w : World} {A : Around} {E : Value → Shared → Prop} {s : Shared} {env : Env} {h₀ : Heap} {L : Addr} {Q : Flow → Shared → Prop}
def TyJ (step : Int) (P O : Addr) (z0 : Tok) (R : List Int) (rest : List (Addr × Obj)) (m₀ : Str → Option Value) (news : List (Addr × Obj)) (c : List Sy × List (Int × Tok)) (m : Str → Option Value) (nx : List (Addr × Obj)) : Prop :=
  ∃ (n k : Nat) (u1 u2 : Option Value), nx = (O, listOf (iv c.2).toArray k) :: (P, listOf (iv ((0, z0) :: (syL step c.1).reverse)).toArray n) :: rest ∧ TyInv R c.1 c.2 ∧
    m = fun z => if z = Str.ofString "symbol" then u1 else if z = Str.ofString "first" then u2 else m₀ z
theorem ty_while {test : Expr} {body : List Stmt} {pos : Pos} {m₀ : Str → Option Value} {P O : Addr} {z0 ta : Tok} {start step : Int} {b : Nat} {rest : List (Addr × Obj)}
    (F : Fr h₀ L s.heap m₀) (N : News h₀ L s.heap ((O, listOf #[] 0) :: (P, listOf #[Value.int 0 z0, Value.int start ta] 0) :: rest)) (hb : b ≤ 1) (hs : start = 256 + 4 * step + (b : Int))
    (hP : ∀ p ∈ rest, p.1 < P) (hO : P < O ∧ AllLt O rest)
    (turn : ∀ xs os n k u1 u2 h tk, TyInv (syF 5 b) xs os → O ≠ P → (∀ p ∈ rest, p.1 ≠ P) → (∀ p ∈ rest, p.1 ≠ O) → Fr h₀ L h (fun z => if z = Str.ofString "symbol" then u1 else if z = Str.ofString "first" then u2 else m₀ z) →
      News h₀ L h ((O, listOf (iv os).toArray k) :: (P, listOf (iv ((0, z0) :: (syL step xs).reverse)).toArray n) :: rest) →
      wpAny (model prog w) A (isTrue test env (eval test env)) (fun q s₂ =>
        if q = true then wpAny (model prog w) A (execs body env) (WhPost h₀ L (TyJ step P O z0 (syF 5 b) rest m₀ ((O, listOf #[] 0) :: (P, listOf #[Value.int 0 z0, Value.int start ta] 0) :: rest)) (fun c => sySum c.1) (xs, os) s Q) E s₂ else Q .next s₂) E { s with heap := h, toks := tk })
    (hE : PassesOwn (model prog w) A env E := by passes_own) :
    wpAny (model prog w) A (exec (.While test body [] pos) env) Q E s := by
  obtain ⟨hsy, hI⟩ := ty_start (t := ta) hb hs
  refine while_st (TyJ step P O z0 (syF 5 b) rest) (fun c => sySum c.1) ([((5, b), ta)], []) F N ⟨0, 0, m₀ (Str.ofString "symbol"), m₀ (Str.ofString "first"), by rw [hsy]; rfl, hI, up2_of rfl rfl (fun z h1 h2 => rfl)⟩ ?_ hE
  rintro ⟨xs, os⟩ m₁ nx h tk ⟨n, k, u1, u2, rfl, hJ, rfl⟩ F' N'
  exact turn xs os n k u1 u2 h tk hJ (Nat.ne_of_gt hO.1) (fun p hp => Nat.ne_of_lt (hP p hp)) (fun p hp => Nat.ne_of_lt (Nat.lt_trans (hP p hp) hO.1)) F' N'
theorem ty_end {step : Int} {P O : Addr} {z0 : Tok} {R : List Int} {rest : List (Addr × Obj)} {m₀ m' : Str → Option Value} {news led : List (Addr × Obj)} {c c' : List Sy × List (Int × Tok)} {s₁ : Shared} {h' : Heap} {tk n k : Nat} {vs us : List Value}
    (F : Fr h₀ L h' m') (N : News h₀ L h' led) (hsub : ∀ p ∈ (O, listOf us.toArray k) :: (P, listOf vs.toArray n) :: rest, p ∈ led) (hus : us = iv c'.2) (hvs : vs = iv ((0, z0) :: (syL step c'.1).reverse)) (hI : TyInv R c'.1 c'.2)
    (hlt : sySum c'.1 < sySum c.1) (ho : ∀ z, z ≠ Str.ofString "symbol" → z ≠ Str.ofString "first" → m' z = m₀ z) :
    WhEnd h₀ L (TyJ step P O z0 R rest m₀ news) (fun c => sySum c.1) c s₁ { s₁ with heap := h', toks := tk } :=
  .intro c' F N hsub hlt ⟨n, k, m' (Str.ofString "symbol"), m' (Str.ofString "first"), by rw [hus, hvs], hI, up2_of rfl rfl ho⟩
theorem ty_news {O P : Addr} {h : Heap} {k n : Nat} {z0 t : Tok} {l b : Nat} {step : Int} {ys : List Sy} {us : List Value} {rest : List (Addr × Obj)}
    (N : News h₀ L h ((O, listOf us.toArray k) :: (P, listOf (iv ((0, z0) :: (syL step (((l, b), t) :: ys)).reverse)).toArray n) :: rest)) :
    News h₀ L h ((O, listOf us.toArray k) :: (P, listOf (iv ((0, z0) :: (syL step ys).reverse) ++ [Value.int (syV step l b) t]).toArray n) :: rest) := by
  have e : iv ((0, z0) :: (syL step (((l, b), t) :: ys)).reverse) = iv ((0, z0) :: (syL step ys).reverse) ++ [Value.int (syV step l b) t] := by simp [iv, syL]
  rw [e] at N; exact N
theorem ty_news0 {O P : Addr} {h : Heap} {k n : Nat} {z0 : Tok} {step : Int} {us : List Value} {rest : List (Addr × Obj)}
    (N : News h₀ L h ((O, listOf us.toArray k) :: (P, listOf (iv ((0, z0) :: (syL step ([] : List Sy)).reverse)).toArray n) :: rest)) :
    News h₀ L h ((O, listOf us.toArray k) :: (P, listOf ([] ++ [Value.int 0 z0]).toArray n) :: rest) := N
theorem ty_plen {R : List Int} {xs : List Sy} {os : List (Int × Tok)} {step : Int} {x : Sy} (H : TyInv R (x :: xs) os) : (syL step xs).length ≤ 100 := by
  have h1 := H.wt
  have h2 := sy_len (x :: xs)
  simp only [syL, List.length_map, List.length_cons] at *
  omega
/-- one symbol that gives way: what its number is -/
theorem sy_big {step : Int} {n b : Nat} (hn : n + 2 ≤ 5) (hb : b ≤ 1) (h2 : 2 ≤ step) (h3 : step ≤ 1000000000) (hev : step % 2 = 0) :
    257 < syV step (n + 2) b ∧ syV step (n + 2) b ≤ 5000000300 ∧ syV step (n + 2) b - step = syV step (n + 1) b ∧ (syV step (n + 2) b - step).fmod 2 = (b : Int) ∧ syV step (n + 2) b - step + 1 - (b : Int) * 2 = syV step (n + 1) (1 - b) := by
  simp only [syV]
  have hc : ((n : Int) + 1) * step = (n : Int) * step + step := by rw [Int.add_mul, Int.one_mul]
  have e1 : ((n + 1 : Nat) : Int) = (n : Int) + 1 := by omega
  rw [e1, hc]
  have hn' : n ≤ 3 := by omega
  have hz : 0 ≤ (n : Int) * step ∧ (n : Int) * step ≤ 3 * step ∧ ((n : Int) * step) % 2 = 0 := by
    have : n = 0 ∨ n = 1 ∨ n = 2 ∨ n = 3 := by omega
    rcases this with rfl | rfl | rfl | rfl <;> (refine ⟨?_, ?_, ?_⟩ <;> omega)
  generalize (n : Int) * step = z at *
  have eb : ((1 - b : Nat) : Int) = 1 - (b : Int) := by omega
  rw [eb, Int.fmod_eq_emod_of_nonneg _ (by omega)]
  refine ⟨by omega, by omega, by omega, by omega, by omega⟩
theorem sy_cases {step : Int} {lv b : Nat} (hx : lv ≤ 5 ∧ b ≤ 1) (h2 : 2 ≤ step) (h3 : step ≤ 1000000000) (hev : step % 2 = 0) :
    ∃ v, syV step lv b = v ∧ ((lv = 0 ∧ v = 255 - (b : Int)) ∨ (lv = 1 ∧ v = 256 + (b : Int)) ∨ (∃ l, lv = l + 2 ∧ 257 < v ∧ v ≤ 5000000300 ∧ v - step = syV step (l + 1) b ∧ (v - step).fmod 2 = (b : Int) ∧ v - step + 1 - (b : Int) * 2 = syV step (l + 1) (1 - b))) := by
  rcases lv with _ | _ | lv
  · exact ⟨_, rfl, .inl ⟨rfl, rfl⟩⟩
  · exact ⟨256 + (b : Int), by simp [syV], .inr (.inl ⟨rfl, rfl⟩)⟩
  · exact ⟨_, rfl, .inr (.inr ⟨lv, rfl, sy_big (n := lv) hx.1 hx.2 h2 h3 hev⟩)⟩
theorem ty_vs {step x y : Int} {l b : Nat} {z0 t1 t2 : Tok} {ys : List Sy} (hx : x = syV step l b) (hy : y = syV step l (1 - b)) :
    iv ((0, z0) :: (syL step ys).reverse) ++ [Value.int y t2, Value.int x t1] = iv ((0, z0) :: (syL step (((l, b), t1) :: ((l, 1 - b), t2) :: ys)).reverse) := by
  subst hx hy
  simp [iv, syL]
theorem ty_low {step : Int} {b : Nat} (hb : b ≤ 1) : (511 - (256 + (b : Int)) = syV step 0 b) ∧ (511 - (256 + (b : Int)) + 1 - (511 - (256 + (b : Int))).fmod 2 * 2 = syV step 0 (1 - b)) := by
  rw [Int.fmod_eq_emod_of_nonneg _ (by omega)]
  simp only [syV]
  omega
end
end Mine
end
section
open PySem PySem.W PyProof.Rows PySem.Calls
set_option linter.unusedVariables false
set_option maxRecDepth 100000
namespace Mine
open Builtin.Str StrLaws
/-! law 2: the halves -/
def halfL (n : Nat) : List Int := (List.range n).map fun k => ((k / 2 : Nat) : Int)
theorem halfL_succ (n : Nat) : halfL (n + 1) = halfL n ++ [((n / 2 : Nat) : Int)] := by unfold halfL; rw [List.range_succ, List.map_append]; rfl
theorem kth_item {l : List (Int × Tok)} {f : Nat → Int} {n k : Nat} (hl : l.map (·.1) = (List.range n).map f) (hk : k < n) : ∃ t, (iv l)[k]? = some (.int (f k) t) := by
  have h1 : (l.map (·.1))[k]? = some (f k) := by rw [hl, List.getElem?_map, List.getElem?_range hk]; rfl
  rw [List.getElem?_map] at h1
  cases h2 : l[k]? with
  | none => rw [h2] at h1; cases h1
  | some p =>
    rw [h2] at h1
    refine ⟨p.2, ?_⟩
    unfold iv
    rw [List.getElem?_map, h2]
    have : p.1 = f k := by simpa using h1
    simp [this]
theorem half_item {l : List (Int × Tok)} {n k : Nat} (hl : l.map (·.1) = halfL n) (hk : k < n) : ∃ t, (iv l)[k]? = some (.int ((k / 2 : Nat) : Int) t) := kth_item hl hk
theorem half_len {l : List (Int × Tok)} {n : Nat} (hl : l.map (·.1) = halfL n) : l.length = n := by
  have := congrArg List.length hl
  simpa [halfL] using this
theorem quo_tl {n : Int} (h : 0 ≤ n) : tl (Txt.mul (Str.ofString "\"") n) = List.replicate n.toNat 34 := by
  rw [tl_mul _ h]
  have : tl (Str.ofString "\"") = [34] := by decide +kernel
  rw [this]
  unfold rep
  rw [List.flatten_replicate_singleton]
theorem quo_dot (n : Nat) : 46 ∉ List.replicate n 34 := by
  intro h
  have := List.eq_of_mem_replicate h
  omega
theorem quo_len {n : Int} (h : 0 ≤ n) : (Txt.mul (Str.ofString "\"") n).length = n.toNat := by
  rw [← tl_len, quo_tl h, List.length_replicate]
/-- a heap taken by its halves -/
theorem half_ell {a b : Int} (ha : 0 ≤ a) (hb : 0 ≤ b) : ellM (Txt.mul (Str.ofString "\"") a ++ Str.ofString "..." ++ Txt.mul (Str.ofString "\"") a) (Txt.mul (Str.ofString "\"") b) = decide (2 * a ≤ b) := by
  rw [ell_two (u := List.replicate a.toNat 34) (v := List.replicate a.toNat 34) (quo_dot _) (quo_dot _) (by rw [tl_app, tl_app, tl_dots, quo_tl ha]), quo_len hb, quo_tl hb]
  refine decide_eq_decide.mpr ⟨?_, ?_⟩
  · rintro ⟨h1, _⟩
    simp only [List.length_replicate] at h1
    omega
  · intro h1
    simp only [List.length_replicate]
    refine ⟨by omega, ?_, ?_⟩
    · rw [List.take_replicate]; congr 1; omega
    · rw [List.drop_replicate]; congr 1; omega
theorem half_yes {i : Nat} (h : i % 2 = 1) : ellM (Txt.mul (Str.ofString "\"") (((i / 2 : Nat) : Int) + 1) ++ Str.ofString "..." ++ Txt.mul (Str.ofString "\"") (((i / 2 : Nat) : Int) + 1)) (Txt.mul (Str.ofString "\"") (1 + (i : Int))) = true := by
  rw [half_ell (by omega) (by omega)]; exact decide_eq_true (by omega)
theorem half_no {i : Nat} (h : i % 2 = 0) : ellM (Txt.mul (Str.ofString "\"") (((i / 2 : Nat) : Int) + 1) ++ Str.ofString "..." ++ Txt.mul (Str.ofString "\"") (((i / 2 : Nat) : Int) + 1)) (Txt.mul (Str.ofString "\"") (1 + (i : Int))) = false := by
  rw [half_ell (by omega) (by omega)]; exact decide_eq_false (by omega)
section
variable {prog : Program} {w : World} {A : Around} {E : Value → Shared → Prop} {s : Shared} {env : Env} {h₀ : Heap} {L D : Addr} {m : Str → Option Value} {news : List (Addr × Obj)} {n : Nat} {vs : List Value} {y : Value} {body : List Stmt}
theorem idx_led {value slice : Expr} {k : Int} {u : Tok} {Q : Value → Shared → Prop} (j : Nat) (N : News h₀ L s.heap news) (hm : (D, listOf vs.toArray n) ∈ news) (hk : k = (j : Int)) (hj : j ≤ 100000) (hx : vs[j]? = some y) (h : Q y s)
    (hs : subscripted slice false (.ref D) (.int k u) = operate [.ref D, .int k u] (getItem (.ref D) (.int k u)) := by with_unfolding_all rfl) :
    wpAny (model prog w) A (subscriptTail value slice (.ref D) (.int k u)) Q E s := by
  subst hk
  exact item_led N hm (by omega) (by omega) (by simpa using hx) h hs
def HaJ (H : Addr) (rest : List (Addr × Obj)) (m₀ : Str → Option Value) (_ : List (Addr × Obj)) (i : Nat) (m : Str → Option Value) (nx : List (Addr × Obj)) : Prop :=
  ∃ (l : List (Int × Tok)) (n : Nat) (u1 u2 u3 : Option Value), nx = (H, listOf (iv l).toArray n) :: rest ∧ l.map (·.1) = halfL (i + 1) ∧
    m = fun z => if z = Str.ofString "n" then u1 else if z = Str.ofString "more" then u2 else if z = Str.ofString "taken" then u3 else m₀ z
theorem ha_iter {H r : Addr} {n0 most : Nat} {b : Int} {t₀ u₀ v₀ tz : Tok} {rest : List (Addr × Obj)} {m₀ : Str → Option Value} {Q : Flow → Shared → Prop}
    (hh : A.handled = none) (hr : IsRange s.heap r 1 b 1 t₀ u₀ v₀) (hb : b = (most : Int) + 1) (hmost : most ≤ 100) (F : Fr h₀ env.locals s.heap m₀) (N : News h₀ env.locals s.heap ((H, listOf #[Value.int 0 tz] n0) :: rest))
    (turn : ∀ i t l n (u2 u3 : Option Value) h tk I oI, i < most → l.map (·.1) = halfL (i + 1) → H ≠ I → (∀ p ∈ rest, p.1 ≠ I) → (∀ p ∈ (H, listOf #[Value.int 0 tz] n0) :: rest, p.1 < I) →
      Fr h₀ env.locals h (fun z => if z = Str.ofString "n" then some (.int (1 + (i : Int)) t) else if z = Str.ofString "more" then u2 else if z = Str.ofString "taken" then u3 else m₀ z) →
      News h₀ env.locals h ((I, oI) :: (H, listOf (iv l).toArray n) :: rest) →
      wpAny (model prog w) A (execs body env) (RgPost h₀ env.locals (HaJ H rest m₀ [] (i + 1)) I oI { s with heap := h, toks := tk } Q) E { s with heap := h, toks := tk })
    (done : ∀ l n (u1 u2 u3 : Option Value) h tk, l.map (·.1) = halfL (most + 1) →
      Fr h₀ env.locals h (fun z => if z = Str.ofString "n" then u1 else if z = Str.ofString "more" then u2 else if z = Str.ofString "taken" then u3 else m₀ z) →
      News h₀ env.locals h ((H, listOf (iv l).toArray n) :: rest) → Q .next { s with heap := h, toks := tk }) :
    wpAny (model prog w) A (pyIter (.ref r)) (fun it s₂ => LoopAtV prog w A h₀ env (Str.ofString "n") body Q E it s₂) E s := by
  have hsm : Builtin.Range.small 1 b 1 = true := small_one (by omega) (by omega) (by omega) (by omega)
  refine iter_rng (fun m₀ _ => HaJ H rest m₀ []) (n := most) hh hr hsm (range_n (by omega)) F N ⟨[(0, tz)], n0, m₀ _, m₀ _, m₀ _, rfl, rfl, up3_of rfl rfl rfl (fun _ _ _ _ => rfl)⟩ ?_ ?_
  · rintro i t m₁ nx h tk I oI hi ⟨l, n, u1, u2, u3, rfl, hl, rfl⟩ hne low F' N'
    refine turn i t l n u2 u3 h tk I oI hi hl (hne _ (.head _)) (fun p hp => hne p (.tail _ hp)) low ?_ N'
    have e : (fun y => if y = Str.ofString "n" then some (Value.int (1 + (i : Int)) t) else (fun z => if z = Str.ofString "n" then u1 else if z = Str.ofString "more" then u2 else if z = Str.ofString "taken" then u3 else m₀ z) y)
      = fun z => if z = Str.ofString "n" then some (.int (1 + (i : Int)) t) else if z = Str.ofString "more" then u2 else if z = Str.ofString "taken" then u3 else m₀ z := by
      funext y
      by_cases h1 : y = Str.ofString "n"
      · rw [if_pos h1, if_pos h1]
      · rw [if_neg h1, if_neg h1]; dsimp only; rw [if_neg h1]
    rw [← e]; exact F'
  · rintro m₁ nx h tk ⟨l, n, u1, u2, u3, rfl, hl, rfl⟩ F' N'
    exact done l n u1 u2 u3 h tk hl F' N'
theorem ha_end {H I : Addr} {oI : Obj} {rest news led : List (Addr × Obj)} {i n : Nat} {l : List (Int × Tok)} {m₀ m' : Str → Option Value} {s₁ : Shared} {h' : Heap} {tk : Nat}
    (F : Fr h₀ L h' m') (N : News h₀ L h' led) (hs : ∀ p ∈ (I, oI) :: (H, listOf (iv l).toArray n) :: rest, p ∈ led) (h1 : H ≠ I) (h2 : ∀ p ∈ rest, p.1 ≠ I) (hl : l.map (·.1) = halfL (i + 1 + 1))
    (ho : ∀ z, z ≠ Str.ofString "n" → z ≠ Str.ofString "more" → z ≠ Str.ofString "taken" → m' z = m₀ z) :
    RgEnd h₀ L (HaJ H rest m₀ news (i + 1)) I oI s₁ { s₁ with heap := h', toks := tk } :=
  .intro F N hs (List.forall_mem_cons.mpr ⟨h1, h2⟩) ⟨l, n, m' _, m' _, m' _, rfl, hl, up3_of rfl rfl rfl ho⟩
end
end Mine
end
section
open PySem PySem.W PyProof.Rows PySem.Calls
set_option linter.unusedVariables false
set_option maxRecDepth 100000
namespace Mine
open Builtin.Str StrLaws
/-! law 2: the kinds -/
def rndF : Nat → Nat → Nat
  | 0, _ => 0
  | f + 1, n => if n = 0 then 0 else if n % 2 = 1 then 0 else 1 + rndF f (n / 2)
def rnd (n : Nat) : Nat := rndF 6 n
theorem rnd_odd {n : Nat} (h : n % 2 = 1) : rnd n = 0 := by
  unfold rnd rndF
  split
  · rfl
  · rfl
theorem rnd_even : ∀ n, n < 24 → n % 2 = 0 → 1 ≤ n → rnd n = 1 + rnd (n / 2) := by decide
def rowAt (b n : Nat) : Int := (syF 5 b).getD n 0
def kN (b n : Nat) : Nat := if n = 0 then 0 else if rnd n % 2 = 1 then 0 else if rowAt b n = rowAt b 0 then 1 else 2
def kS (k : Nat) : Str := if k = 0 then Str.ofString "dopey" else if k = 1 then Str.ofString "evil" else Str.ofString "odious"
def rndL (n : Nat) : List Int := (List.range n).map fun k => (rnd k : Int)
def kinL (b n : Nat) : List Str := (List.range n).map fun k => kS (kN b k)
theorem rndL_succ (n : Nat) : rndL (n + 1) = rndL n ++ [(rnd n : Int)] := by unfold rndL; rw [List.range_succ, List.map_append]; rfl
theorem kinL_succ (b n : Nat) : kinL b (n + 1) = kinL b n ++ [kS (kN b n)] := by unfold kinL; rw [List.range_succ, List.map_append]; rfl
theorem sv_snoc (l : List (Str × Tok)) (x : Str) (t : Tok) : strValues l ++ [Value.str x t] = strValues (l ++ [(x, t)]) := by simp [strValues]
theorem sv_len (l : List (Str × Tok)) : (strValues l).length = l.length := by simp [strValues]
theorem rnd_item {l : List (Int × Tok)} {n k : Nat} (hl : l.map (·.1) = rndL n) (hk : k < n) : ∃ t, (iv l)[k]? = some (.int (rnd k : Int) t) := kth_item hl hk
theorem rnd_len {l : List (Int × Tok)} {n : Nat} (hl : l.map (·.1) = rndL n) : l.length = n := by
  have := congrArg List.length hl
  simpa [rndL] using this
theorem kin_len {l : List (Str × Tok)} {b n : Nat} (hl : l.map (·.1) = kinL b n) : l.length = n := by
  have := congrArg List.length hl
  simpa [kinL] using this
theorem row_item {l : List (Int × Tok)} {b k : Nat} (hl : l.map (·.1) = syF 5 b) (hk : k < 32) : ∃ t, (iv l)[k]? = some (.int (rowAt b k) t) := by
  have hn : (syF 5 b).length = 32 := syF_len 5 b
  have h1 : (l.map (·.1))[k]? = some (rowAt b k) := by
    rw [hl]
    unfold rowAt
    rw [List.getD_eq_getElem?_getD, List.getElem?_eq_getElem (by omega)]; rfl
  rw [List.getElem?_map] at h1
  cases h2 : l[k]? with
  | none => rw [h2] at h1; cases h1
  | some p =>
    rw [h2] at h1
    refine ⟨p.2, ?_⟩
    unfold iv
    rw [List.getElem?_map, h2]
    have : p.1 = rowAt b k := by simpa using h1
    simp [this]
theorem kin_item {l : List (Str × Tok)} {b n k : Nat} (hl : l.map (·.1) = kinL b n) (hk : k < n) : ∃ t, (strValues l)[k]? = some (.str (kS (kN b k)) t) := by
  have h1 : (l.map (·.1))[k]? = some (kS (kN b k)) := by rw [hl]; unfold kinL; rw [List.getElem?_map, List.getElem?_range hk]; rfl
  rw [List.getElem?_map] at h1
  cases h2 : l[k]? with
  | none => rw [h2] at h1; cases h1
  | some p =>
    rw [h2] at h1
    refine ⟨p.2, ?_⟩
    unfold strValues
    rw [List.getElem?_map, h2]
    have : p.1 = kS (kN b k) := by simpa using h1
    simp [this]
/-- what a reply of marks and a sign is read as -/
def toldL (n c : Nat) : List Nat := if n % 2 = 1 then List.replicate (n / 2) 34 else List.replicate (n / 2) 34 ++ [c]
theorem unq_marks {c : Nat} (hc : c ≠ 34) (r : List Nat) : ∀ k, unq (List.replicate (2 * k) 34 ++ c :: 34 :: 32 :: r) = List.replicate k 34 ++ [c] ∧ unq (34 :: (List.replicate (2 * k) 34 ++ c :: 34 :: 32 :: r)) = List.replicate k 34
  | 0 => by
    refine ⟨?_, ?_⟩
    · show unq (c :: 34 :: 32 :: r) = [c]
      rw [unq_other hc, unq_end (by decide)]
    · show unq (34 :: c :: _) = []
      rw [unq_end hc]
  | k + 1 => by
    obtain ⟨h1, h2⟩ := unq_marks hc r k
    have e : 2 * (k + 1) = (2 * k + 1) + 1 := by omega
    refine ⟨?_, ?_⟩
    · rw [e, List.replicate_succ, List.replicate_succ, List.cons_append, List.cons_append, unq_two, h1, List.replicate_succ, List.cons_append]
    · have e2 : (34 :: (List.replicate (2 * (k + 1)) 34 ++ c :: 34 :: 32 :: r)) = 34 :: 34 :: (34 :: (List.replicate (2 * k) 34 ++ c :: 34 :: 32 :: r)) := by
        rw [e, List.replicate_succ, List.replicate_succ]; rfl
      rw [e2, unq_two, h2, List.replicate_succ]
theorem unq_told {n c : Nat} (hc : c ≠ 34) (r : List Nat) : unq (List.replicate n 34 ++ c :: 34 :: 32 :: r) = toldL n c := by
  unfold toldL
  by_cases h : n % 2 = 1
  · rw [if_pos h]
    have e : n = 2 * (n / 2) + 1 := by omega
    have := (unq_marks hc r (n / 2)).2
    rw [← List.cons_append, ← List.replicate_succ, ← e] at this
    exact this
  · rw [if_neg h]
    have e : n = 2 * (n / 2) := by omega
    have := (unq_marks hc r (n / 2)).1
    rw [← e] at this
    exact this
theorem kn_pre {n c : Nat} {k : Int} (hk : k = (n : Int)) (hn : n ≤ 100) (hc : c ≠ 34) :
    (Str.ofString "257 \"" ++ Txt.mul (Str.ofString "\"") k ++ ⟨#[c]⟩ ++ Str.ofString "\" is left").length ≤ 1000 ∧
    (Txt.slice (Str.ofString "257 \"" ++ Txt.mul (Str.ofString "\"") k ++ ⟨#[c]⟩ ++ Str.ofString "\" is left") none (some 3) != Str.ofString "257") = false ∧
    (Txt.slice (Str.ofString "257 \"" ++ Txt.mul (Str.ofString "\"") k ++ ⟨#[c]⟩ ++ Str.ofString "\" is left") (some 3) (some 5) != Str.ofString " \"") = false ∧
    PwInv (Str.ofString "257 \"" ++ Txt.mul (Str.ofString "\"") k ++ ⟨#[c]⟩ ++ Str.ofString "\" is left") (toldL n c) 5 Str.empty := by
  have e9 : tl (Str.ofString "\" is left") = [34, 32, 105, 115, 32, 108, 101, 102, 116] := by decide +kernel
  generalize hr : Str.ofString "257 \"" ++ Txt.mul (Str.ofString "\"") k ++ ⟨#[c]⟩ ++ Str.ofString "\" is left" = resp
  have ht : tl resp = [50, 53, 55, 32, 34] ++ (List.replicate n 34 ++ c :: 34 :: 32 :: [105, 115, 32, 108, 101, 102, 116]) := by
    rw [← hr, tl_app, tl_app, tl_app, tl_257, quo_tl (by omega), e9, hk]
    simp
    rfl
  have hl := tl_len resp
  have h5 : resp.length = 5 + n + 10 := by rw [← hl, ht]; simp; omega
  refine ⟨by omega, bne_tl ?_, bne_tl ?_, ⟨by omega, Nat.zero_le _, ?_⟩⟩
  · rw [slice_to ⟨by omega, by omega⟩, ht]
    have : tl (Str.ofString "257") = [50, 53, 55] := by decide +kernel
    rw [this]; rfl
  · have := slice_mid (x := resp) (a := 3) (b := 5) ⟨by omega, by omega⟩
    have e2 : tl (Str.ofString " \"") = [32, 34] := by decide +kernel
    rw [e2, show ((3 : Nat) : Int) = 3 from rfl, show ((5 : Nat) : Int) = 5 from rfl] at *
    rw [this, ht]; rfl
  · show [] ++ unq ((tl resp).drop 5) = _
    rw [ht]
    exact unq_told hc _
section
variable {n c : Nat} {k : Int}
theorem told_odd (h : n % 2 = 1) (hk : k = ((n / 2 : Nat) : Int)) : ((⟨(toldL n c).toArray⟩ : Str) != Txt.mul (Str.ofString "\"") k) = false ∧ ((⟨(toldL n c).toArray⟩ : Str) == Txt.mul (Str.ofString "\"") k) = true := by
  have e : tl (⟨(toldL n c).toArray⟩ : Str) = tl (Txt.mul (Str.ofString "\"") k) := by
    rw [quo_tl (by omega)]
    show toldL n c = _
    unfold toldL; rw [if_pos h, hk]; rfl
  exact ⟨bne_tl e, by rw [tl_inj e]; simp⟩
theorem told_even (h : n % 2 = 0) (hk : k = ((n / 2 : Nat) : Int)) : ((⟨(toldL n c).toArray⟩ : Str) != Txt.mul (Str.ofString "\"") k) = true ∧ ((⟨(toldL n c).toArray⟩ : Str) == Txt.mul (Str.ofString "\"") k) = false ∧ ((⟨(toldL n c).toArray⟩ : Str) != Txt.mul (Str.ofString "\"") k ++ ⟨#[c]⟩) = false := by
  have e0 : tl (⟨(toldL n c).toArray⟩ : Str) = List.replicate (n / 2) 34 ++ [c] := by
    show toldL n c = _
    unfold toldL; rw [if_neg (by omega)]
  have e1 : tl (Txt.mul (Str.ofString "\"") k) = List.replicate (n / 2) 34 := by
    rw [quo_tl (by omega), hk]; rfl
  have hne : ((⟨(toldL n c).toArray⟩ : Str) == Txt.mul (Str.ofString "\"") k) = false := by
    rw [str_beq, e0, e1, decide_eq_false_iff_not]
    intro e
    have := congrArg List.length e
    simp at this
  refine ⟨by rw [bne, hne]; rfl, hne, bne_tl ?_⟩
  rw [tl_app, e0, e1]
end
theorem kN_odd {b n : Nat} (h : n % 2 = 1) : kN b n = if rowAt b n = rowAt b 0 then 1 else 2 := by
  unfold kN
  rw [if_neg (by omega), rnd_odd h, if_neg (by decide)]
theorem kN_dopey {b n : Nat} (h0 : 1 ≤ n) (h : rnd n % 2 = 1) : kN b n = 0 := by
  unfold kN
  rw [if_neg (by omega), if_pos h]
theorem kN_vile {b n : Nat} (h0 : 1 ≤ n) (h : rnd n % 2 = 0) : kN b n = if rowAt b n = rowAt b 0 then 1 else 2 := by
  unfold kN
  rw [if_neg (by omega), if_neg (by omega)]
section
variable {prog : Program} {w : World} {A : Around} {E : Value → Shared → Prop} {s : Shared} {env : Env} {h₀ : Heap} {L D : Addr} {m : Str → Option Value} {news : List (Addr × Obj)} {n : Nat} {vs : List Value} {y : Value} {body : List Stmt}
def KnJ (b : Nat) (K R : Addr) (rest : List (Addr × Obj)) (m₀ : Str → Option Value) (_ : List (Addr × Obj)) (i : Nat) (m : Str → Option Value) (nx : List (Addr × Obj)) : Prop :=
  ∃ (ks : List (Str × Tok)) (rs : List (Int × Tok)) (n1 n2 : Nat) (u1 u2 u3 : Option Value), nx = (K, listOf (strValues ks).toArray n1) :: (R, listOf (iv rs).toArray n2) :: rest ∧ ks.map (·.1) = kinL b (i + 1) ∧ rs.map (·.1) = rndL (i + 1) ∧
    m = fun z => if z = Str.ofString "n" then u1 else if z = Str.ofString "told" then u2 else if z = Str.ofString "rest" then u3 else m₀ z
theorem kn_iter {b : Nat} {K R r : Addr} {n1 n2 most : Nat} {z : Int} {t₀ u₀ v₀ tz tk0 : Tok} {rest : List (Addr × Obj)} {m₀ : Str → Option Value} {Q : Flow → Shared → Prop}
    (hh : A.handled = none) (hr : IsRange s.heap r 1 z 1 t₀ u₀ v₀) (hb : z = (most : Int) + 1) (hmost : most ≤ 100) (F : Fr h₀ env.locals s.heap m₀)
    (N : News h₀ env.locals s.heap ((K, listOf #[Value.str (Str.ofString "dopey") tk0] n1) :: (R, listOf #[Value.int 0 tz] n2) :: rest)) (hRK : R < K) (hKr : ∀ p ∈ rest, p.1 < R)
    (turn : ∀ i t ks rs n1 n2 (u2 u3 : Option Value) h tk I oI, i < most → ks.map (·.1) = kinL b (i + 1) → rs.map (·.1) = rndL (i + 1) → K ≠ I → R ≠ I → (∀ p ∈ rest, p.1 ≠ I) → R ≠ K → (∀ p ∈ rest, p.1 ≠ K) → (∀ p ∈ rest, p.1 ≠ R) →
      Fr h₀ env.locals h (fun z => if z = Str.ofString "n" then some (.int (1 + (i : Int)) t) else if z = Str.ofString "told" then u2 else if z = Str.ofString "rest" then u3 else m₀ z) →
      News h₀ env.locals h ((I, oI) :: (K, listOf (strValues ks).toArray n1) :: (R, listOf (iv rs).toArray n2) :: rest) →
      wpAny (model prog w) A (execs body env) (RgPost h₀ env.locals (KnJ b K R rest m₀ [] (i + 1)) I oI { s with heap := h, toks := tk } Q) E { s with heap := h, toks := tk })
    (done : ∀ ks rs n1 n2 (u1 u2 u3 : Option Value) h tk, ks.map (·.1) = kinL b (most + 1) →
      Fr h₀ env.locals h (fun z => if z = Str.ofString "n" then u1 else if z = Str.ofString "told" then u2 else if z = Str.ofString "rest" then u3 else m₀ z) →
      News h₀ env.locals h ((K, listOf (strValues ks).toArray n1) :: (R, listOf (iv rs).toArray n2) :: rest) → Q .next { s with heap := h, toks := tk }) :
    wpAny (model prog w) A (pyIter (.ref r)) (fun it s₂ => LoopAtV prog w A h₀ env (Str.ofString "n") body Q E it s₂) E s := by
  have hsm : Builtin.Range.small 1 z 1 = true := small_one (by omega) (by omega) (by omega) (by omega)
  refine iter_rng (fun m₀ _ => KnJ b K R rest m₀ []) (n := most) hh hr hsm (range_n (by omega)) F N ⟨[(Str.ofString "dopey", tk0)], [(0, tz)], n1, n2, m₀ _, m₀ _, m₀ _, rfl, rfl, rfl, up3_of rfl rfl rfl (fun _ _ _ _ => rfl)⟩ ?_ ?_
  · rintro i t m₁ nx h tk I oI hi ⟨ks, rs, n1, n2, u1, u2, u3, rfl, hk, hrs, rfl⟩ hne low F' N'
    refine turn i t ks rs n1 n2 u2 u3 h tk I oI hi hk hrs (hne _ (.head _)) (hne _ (.tail _ (.head _))) (fun p hp => hne p (.tail _ (.tail _ hp))) (Nat.ne_of_lt hRK) (fun p hp => Nat.ne_of_lt (Nat.lt_trans (hKr p hp) hRK)) (fun p hp => Nat.ne_of_lt (hKr p hp)) ?_ N'
    have e : (fun y => if y = Str.ofString "n" then some (Value.int (1 + (i : Int)) t) else (fun z => if z = Str.ofString "n" then u1 else if z = Str.ofString "told" then u2 else if z = Str.ofString "rest" then u3 else m₀ z) y)
      = fun z => if z = Str.ofString "n" then some (.int (1 + (i : Int)) t) else if z = Str.ofString "told" then u2 else if z = Str.ofString "rest" then u3 else m₀ z := by
      funext y
      by_cases h1 : y = Str.ofString "n"
      · rw [if_pos h1, if_pos h1]
      · rw [if_neg h1, if_neg h1]; dsimp only; rw [if_neg h1]
    rw [← e]; exact F'
  · rintro m₁ nx h tk ⟨ks, rs, n1, n2, u1, u2, u3, rfl, hk, hrs, rfl⟩ F' N'
    exact done ks rs n1 n2 u1 u2 u3 h tk hk F' N'
theorem kn_end {b : Nat} {K R I : Addr} {oI : Obj} {rest news led : List (Addr × Obj)} {i n1 n2 : Nat} {ks : List (Str × Tok)} {rs : List (Int × Tok)} {m₀ m' : Str → Option Value} {s₁ : Shared} {h' : Heap} {tk : Nat}
    (F : Fr h₀ L h' m') (N : News h₀ L h' led) (hs : ∀ p ∈ (I, oI) :: (K, listOf (strValues ks).toArray n1) :: (R, listOf (iv rs).toArray n2) :: rest, p ∈ led) (h1 : K ≠ I) (h2 : R ≠ I) (h3 : ∀ p ∈ rest, p.1 ≠ I)
    (hk : ks.map (·.1) = kinL b (i + 1 + 1)) (hr : rs.map (·.1) = rndL (i + 1 + 1))
    (ho : ∀ z, z ≠ Str.ofString "n" → z ≠ Str.ofString "told" → z ≠ Str.ofString "rest" → m' z = m₀ z) :
    RgEnd h₀ L (KnJ b K R rest m₀ news (i + 1)) I oI s₁ { s₁ with heap := h', toks := tk } :=
  .intro F N hs (List.forall_mem_cons.mpr ⟨h1, List.forall_mem_cons.mpr ⟨h2, h3⟩⟩) ⟨ks, rs, n1, n2, m' _, m' _, m' _, rfl, hk, hr, up3_of rfl rfl rfl ho⟩
theorem kin_add {ks : List (Str × Tok)} {b n k : Nat} {x : Str} {t : Tok} (h : ks.map (·.1) = kinL b n) (hk : kN b n = k) (hx : x = kS k) : (ks ++ [(x, t)]).map (·.1) = kinL b (n + 1) := by
  rw [List.map_append, h, kinL_succ, hk, hx]; rfl
theorem rnd_add {rs : List (Int × Tok)} {n : Nat} {x : Int} {t : Tok} (h : rs.map (·.1) = rndL n) (hx : x = (rnd n : Int)) : (rs ++ [(x, t)]).map (·.1) = rndL (n + 1) := by
  rw [List.map_append, h, rndL_succ, hx]; rfl
theorem snoc_item {rs : List (Int × Tok)} {n : Nat} {x : Int} {t : Tok} (h : rs.length = n) : (iv (rs ++ [(x, t)]))[n]? = some (.int x t) := by
  subst h; simp [iv]
end
/-- the ways through a turn -/
theorem kn_ways (b n : Nat) (hn : n < 24) (h1 : 1 ≤ n) :
    (n % 2 = 1 ∧ rnd n = 0 ∧ rowAt b n = rowAt b 0 ∧ kN b n = 1) ∨ (n % 2 = 1 ∧ rnd n = 0 ∧ rowAt b n ≠ rowAt b 0 ∧ kN b n = 2) ∨
    (n % 2 = 0 ∧ rnd n = 1 + rnd (n / 2) ∧ rnd n % 2 = 1 ∧ kN b n = 0) ∨
    (n % 2 = 0 ∧ rnd n = 1 + rnd (n / 2) ∧ rnd n % 2 = 0 ∧ rowAt b n = rowAt b 0 ∧ kN b n = 1) ∨ (n % 2 = 0 ∧ rnd n = 1 + rnd (n / 2) ∧ rnd n % 2 = 0 ∧ rowAt b n ≠ rowAt b 0 ∧ kN b n = 2) := by
  rcases Nat.mod_two_eq_zero_or_one n with h | h
  · have e := rnd_even n hn h h1
    rcases Nat.mod_two_eq_zero_or_one (rnd n) with h2 | h2
    · have hk := kN_vile (b := b) h1 h2
      by_cases hr : rowAt b n = rowAt b 0
      · rw [if_pos hr] at hk; exact .inr (.inr (.inr (.inl ⟨h, e, h2, hr, hk⟩)))
      · rw [if_neg hr] at hk; exact .inr (.inr (.inr (.inr ⟨h, e, h2, hr, hk⟩)))
    · exact .inr (.inr (.inl ⟨h, e, h2, kN_dopey h1 h2⟩))
  · have hk := kN_odd (b := b) h
    by_cases hr : rowAt b n = rowAt b 0
    · rw [if_pos hr] at hk; exact .inl ⟨h, rnd_odd h, hr, hk⟩
    · rw [if_neg hr] at hk; exact .inr (.inl ⟨h, rnd_odd h, hr, hk⟩)
structure KnFin (b i : Nat) (ks : List (Str × Tok)) (rs : List (Int × Tok)) (x : Str) (r : Int) : Prop where
  ks : ∀ t : Tok, (ks ++ [(x, t)]).map (·.1) = kinL b (i + 1 + 1)
  rs : ∀ t : Tok, (rs ++ [(r, t)]).map (·.1) = rndL (i + 1 + 1)
theorem knFin_of {b i k : Nat} {ks : List (Str × Tok)} {rs : List (Int × Tok)} {x : Str} {r : Int} (hks : ks.map (·.1) = kinL b (i + 1)) (hrs : rs.map (·.1) = rndL (i + 1)) (hk : kN b (1 + i) = k) (hx : x = kS k) (hr : r = (rnd (1 + i) : Int)) : KnFin b i ks rs x r :=
  ⟨fun t => kin_add hks (by rw [Nat.add_comm i 1]; exact hk) hx, fun t => rnd_add hrs (by rw [Nat.add_comm i 1]; exact hr)⟩
structure KnSt (b i : Nat) (ks : List (Str × Tok)) (rs : List (Int × Tok)) : Prop where
  ks : ks.map (·.1) = kinL b (i + 1)
  rs : rs.map (·.1) = rndL (i + 1)
theorem kn_all {b i c most : Nat} {ks : List (Str × Tok)} {rs hl os : List (Int × Tok)} (H : KnSt b i ks rs) (ehl : hl.map (·.1) = halfL (most + 1)) (eos : os.map (·.1) = syF 5 b) (hi : i < most) (hmost : most ≤ 23) (hc : c ≠ 34) :
    ∃ (hn : Nat) (hv r2 rv r0 : Int) (th tr tw t0 : Tok) (R : List Nat),
      (hv = (hn : Int) ∧ hn ≤ 11 ∧ 0 ≤ r2 ∧ r2 ≤ 1000) ∧ (iv hl)[1 + i]? = some (.int hv th) ∧ (iv rs)[hn]? = some (.int r2 tr) ∧ (iv os)[1 + i]? = some (.int rv tw) ∧ (iv os)[0]? = some (.int r0 t0) ∧
      ((Str.ofString "257 \"" ++ Txt.mul (Str.ofString "\"") (1 + (i : Int)) ++ ⟨#[c]⟩ ++ Str.ofString "\" is left").length ≤ 1000 ∧
        (Txt.slice (Str.ofString "257 \"" ++ Txt.mul (Str.ofString "\"") (1 + (i : Int)) ++ ⟨#[c]⟩ ++ Str.ofString "\" is left") none (some 3) != Str.ofString "257") = false ∧
        (Txt.slice (Str.ofString "257 \"" ++ Txt.mul (Str.ofString "\"") (1 + (i : Int)) ++ ⟨#[c]⟩ ++ Str.ofString "\" is left") (some 3) (some 5) != Str.ofString " \"") = false ∧
        PwInv (Str.ofString "257 \"" ++ Txt.mul (Str.ofString "\"") (1 + (i : Int)) ++ ⟨#[c]⟩ ++ Str.ofString "\" is left") R 5 Str.empty) ∧
      ((((⟨R.toArray⟩ : Str) != Txt.mul (Str.ofString "\"") hv) = false ∧ ((⟨R.toArray⟩ : Str) == Txt.mul (Str.ofString "\"") hv) = true ∧ rv = r0 ∧ KnFin b i ks rs (Str.ofString "evil") 0) ∨
       (((⟨R.toArray⟩ : Str) != Txt.mul (Str.ofString "\"") hv) = false ∧ ((⟨R.toArray⟩ : Str) == Txt.mul (Str.ofString "\"") hv) = true ∧ rv ≠ r0 ∧ KnFin b i ks rs (Str.ofString "odious") 0) ∨
       (((⟨R.toArray⟩ : Str) != Txt.mul (Str.ofString "\"") hv) = true ∧ ((⟨R.toArray⟩ : Str) == Txt.mul (Str.ofString "\"") hv) = false ∧ ((⟨R.toArray⟩ : Str) != Txt.mul (Str.ofString "\"") hv ++ ⟨#[c]⟩) = false ∧ (1 + r2).fmod 2 = 1 ∧ KnFin b i ks rs (Str.ofString "dopey") (1 + r2)) ∨
       (((⟨R.toArray⟩ : Str) != Txt.mul (Str.ofString "\"") hv) = true ∧ ((⟨R.toArray⟩ : Str) == Txt.mul (Str.ofString "\"") hv) = false ∧ ((⟨R.toArray⟩ : Str) != Txt.mul (Str.ofString "\"") hv ++ ⟨#[c]⟩) = false ∧ (1 + r2).fmod 2 = 0 ∧ rv = r0 ∧ KnFin b i ks rs (Str.ofString "evil") (1 + r2)) ∨
       (((⟨R.toArray⟩ : Str) != Txt.mul (Str.ofString "\"") hv) = true ∧ ((⟨R.toArray⟩ : Str) == Txt.mul (Str.ofString "\"") hv) = false ∧ ((⟨R.toArray⟩ : Str) != Txt.mul (Str.ofString "\"") hv ++ ⟨#[c]⟩) = false ∧ (1 + r2).fmod 2 = 0 ∧ rv ≠ r0 ∧ KnFin b i ks rs (Str.ofString "odious") (1 + r2))) := by
  have hrl := rnd_len H.rs
  obtain ⟨th, hth⟩ := half_item (k := 1 + i) ehl (by omega)
  obtain ⟨tr, hrh⟩ := rnd_item (k := (1 + i) / 2) H.rs (by omega)
  obtain ⟨tw, hrow⟩ := row_item (k := 1 + i) eos (by omega)
  obtain ⟨t0, hrow0⟩ := row_item (k := 0) eos (by omega)
  have hr2 : ∀ n, n < 24 → rnd n ≤ 1000 := by decide
  have hr2' := hr2 ((1 + i) / 2) (by omega)
  refine ⟨(1 + i) / 2, _, _, _, _, th, tr, tw, t0, toldL (1 + i) c, ⟨rfl, by omega, by omega, by omega⟩, hth, hrh, hrow, hrow0, kn_pre (n := 1 + i) (by omega) (by omega) hc, ?_⟩
  have hfm : (1 + (rnd ((1 + i) / 2) : Int)).fmod 2 = (((1 + rnd ((1 + i) / 2)) % 2 : Nat) : Int) := by rw [Int.fmod_eq_emod_of_nonneg _ (by omega)]; omega
  rcases kn_ways b (1 + i) (by omega) (by omega) with ⟨hp, hr0, h9, hkN⟩ | ⟨hp, hr0, h9, hkN⟩ | ⟨hp, hr1, h8, hkN⟩ | ⟨hp, hr1, h8, h9, hkN⟩ | ⟨hp, hr1, h8, h9, hkN⟩
  · obtain ⟨e1, e2⟩ := told_odd (c := c) hp (k := (((1 + i) / 2 : Nat) : Int)) rfl
    exact .inl ⟨e1, e2, h9, knFin_of H.ks H.rs hkN rfl (by rw [hr0]; rfl)⟩
  · obtain ⟨e1, e2⟩ := told_odd (c := c) hp (k := (((1 + i) / 2 : Nat) : Int)) rfl
    exact .inr (.inl ⟨e1, e2, h9, knFin_of H.ks H.rs hkN rfl (by rw [hr0]; rfl)⟩)
  · obtain ⟨e1, e2, e3⟩ := told_even (c := c) hp (k := (((1 + i) / 2 : Nat) : Int)) rfl
    exact .inr (.inr (.inl ⟨e1, e2, e3, by rw [hfm, ← hr1, h8]; rfl, knFin_of H.ks H.rs hkN rfl (by rw [hr1]; omega)⟩))
  · obtain ⟨e1, e2, e3⟩ := told_even (c := c) hp (k := (((1 + i) / 2 : Nat) : Int)) rfl
    exact .inr (.inr (.inr (.inl ⟨e1, e2, e3, by rw [hfm, ← hr1, h8]; rfl, h9, knFin_of H.ks H.rs hkN rfl (by rw [hr1]; omega)⟩)))
  · obtain ⟨e1, e2, e3⟩ := told_even (c := c) hp (k := (((1 + i) / 2 : Nat) : Int)) rfl
    exact .inr (.inr (.inr (.inr ⟨e1, e2, e3, by rw [hfm, ← hr1, h8]; rfl, h9, knFin_of H.ks H.rs hkN rfl (by rw [hr1]; omega)⟩)))
end Mine
end
section
open PySem PySem.W PyProof.Rows PySem.Calls
set_option linter.unusedVariables false
set_option maxRecDepth 100000
namespace Mine
open Builtin.Str StrLaws
theorem kN_le (b n : Nat) : kN b n ≤ 2 := by
  unfold kN
  split
  · omega
  split
  · omega
  split <;> omega
/-- whether a heap of such kinds is level -/
def levK (a b c : Nat) : Bool := (((if a = 1 then 1 else 0) + (if b = 1 then 1 else 0) + (if c = 1 then 1 else 0)) % 2 == 0) && (((if a = 2 then 1 else 0) + (if b = 2 then 1 else 0) + (if c = 2 then 1 else 0)) % 2 == 0)
def lev (p x y z : Nat) : Bool := levK (kN p x) (kN p y) (kN p z)
theorem cnt_even1 : ∀ a, a ≤ 2 → ∀ b, b ≤ 2 → ∀ c, c ≤ 2 → (decide ((PySem.Spec.countIn (.str (Str.ofString "evil")) ([kS a, kS b, kS c].map PyData.str)).fmod 2 = 0)) = (((if a = 1 then 1 else 0) + (if b = 1 then 1 else 0) + (if c = 1 then 1 else 0)) % 2 == 0) := by
  intro a ha b hb c hc
  have h1 : a = 0 ∨ a = 1 ∨ a = 2 := by omega
  have h2 : b = 0 ∨ b = 1 ∨ b = 2 := by omega
  have h3 : c = 0 ∨ c = 1 ∨ c = 2 := by omega
  rcases h1 with rfl | rfl | rfl <;> rcases h2 with rfl | rfl | rfl <;> rcases h3 with rfl | rfl | rfl <;> decide +kernel
theorem cnt_even2 : ∀ a, a ≤ 2 → ∀ b, b ≤ 2 → ∀ c, c ≤ 2 → (decide ((PySem.Spec.countIn (.str (Str.ofString "odious")) ([kS a, kS b, kS c].map PyData.str)).fmod 2 = 0)) = (((if a = 2 then 1 else 0) + (if b = 2 then 1 else 0) + (if c = 2 then 1 else 0)) % 2 == 0) := by
  intro a ha b hb c hc
  have h1 : a = 0 ∨ a = 1 ∨ a = 2 := by omega
  have h2 : b = 0 ∨ b = 1 ∨ b = 2 := by omega
  have h3 : c = 0 ∨ c = 1 ∨ c = 2 := by omega
  rcases h1 with rfl | rfl | rfl <;> rcases h2 with rfl | rfl | rfl <;> rcases h3 with rfl | rfl | rfl <;> decide +kernel
theorem carried_strs : ∀ {ys : List Value} {xs : List Str}, CarriedAll ys (xs.map PyData.str) → StrsAre ys xs
  | ys, [], h => by cases h; exact .nil
  | ys, x :: xs, h => by
    cases h with
    | cons h1 h2 =>
      cases h1
      exact .cons _ _ (carried_strs h2)
theorem cnt_bd1 : ∀ a, a ≤ 2 → ∀ b, b ≤ 2 → ∀ c, c ≤ 2 → 0 ≤ PySem.Spec.countIn (.str (Str.ofString "evil")) ([kS a, kS b, kS c].map PyData.str) ∧ PySem.Spec.countIn (.str (Str.ofString "evil")) ([kS a, kS b, kS c].map PyData.str) ≤ 3 := by
  intro a ha b hb c hc
  have h1 : a = 0 ∨ a = 1 ∨ a = 2 := by omega
  have h2 : b = 0 ∨ b = 1 ∨ b = 2 := by omega
  have h3 : c = 0 ∨ c = 1 ∨ c = 2 := by omega
  rcases h1 with rfl | rfl | rfl <;> rcases h2 with rfl | rfl | rfl <;> rcases h3 with rfl | rfl | rfl <;> decide +kernel
theorem cnt_bd2 : ∀ a, a ≤ 2 → ∀ b, b ≤ 2 → ∀ c, c ≤ 2 → 0 ≤ PySem.Spec.countIn (.str (Str.ofString "odious")) ([kS a, kS b, kS c].map PyData.str) ∧ PySem.Spec.countIn (.str (Str.ofString "odious")) ([kS a, kS b, kS c].map PyData.str) ≤ 3 := by
  intro a ha b hb c hc
  have h1 : a = 0 ∨ a = 1 ∨ a = 2 := by omega
  have h2 : b = 0 ∨ b = 1 ∨ b = 2 := by omega
  have h3 : c = 0 ∨ c = 1 ∨ c = 2 := by omega
  rcases h1 with rfl | rfl | rfl <;> rcases h2 with rfl | rfl | rfl <;> rcases h3 with rfl | rfl | rfl <;> decide +kernel
def evn1 (a b c : Nat) : Bool := ((if a = 1 then 1 else 0) + (if b = 1 then 1 else 0) + (if c = 1 then 1 else 0)) % 2 == 0
def evn2 (a b c : Nat) : Bool := ((if a = 2 then 1 else 0) + (if b = 2 then 1 else 0) + (if c = 2 then 1 else 0)) % 2 == 0
theorem levK_eq (a b c : Nat) : levK a b c = (evn1 a b c && evn2 a b c) := rfl
section
variable {prog : Program} {w : World} {A : Around} {E : Value → Shared → Prop} {s : Shared} {D : Addr}
theorem count_led1 {ys : List Value} {b : Nat} {x y z : Nat} {t : Tok} {Q : Value → Shared → Prop} (hl : s.heap.IsList D ys.toArray) (hc : CarriedAll ys (List.map (fun k : Int => PyData.str (kS (kN b k.toNat))) [(x : Int), (y : Int), (z : Int)]))
    (h : ∀ (c : Int) t k, 0 ≤ c → c ≤ 3 → decide (c.fmod 2 = 0) = evn1 (kN b x) (kN b y) (kN b z) → Q (.int c t) { s with toks := k }) :
    wpAny (model prog w) A (call (.builtin "list.count") [.ref D, .str (Str.ofString "evil") t]) Q E s := by
  refine count_list_strs hl (carried_strs (xs := [kS (kN b x), kS (kN b y), kS (kN b z)]) hc) ?_
  have b1 := cnt_bd1 _ (kN_le b x) _ (kN_le b y) _ (kN_le b z)
  exact h _ _ _ b1.1 b1.2 (cnt_even1 _ (kN_le b x) _ (kN_le b y) _ (kN_le b z))
theorem count_led2 {ys : List Value} {b : Nat} {x y z : Nat} {t : Tok} {Q : Value → Shared → Prop} (hl : s.heap.IsList D ys.toArray) (hc : CarriedAll ys (List.map (fun k : Int => PyData.str (kS (kN b k.toNat))) [(x : Int), (y : Int), (z : Int)]))
    (h : ∀ (c : Int) t k, 0 ≤ c → c ≤ 3 → decide (c.fmod 2 = 0) = evn2 (kN b x) (kN b y) (kN b z) → Q (.int c t) { s with toks := k }) :
    wpAny (model prog w) A (call (.builtin "list.count") [.ref D, .str (Str.ofString "odious") t]) Q E s := by
  refine count_list_strs hl (carried_strs (xs := [kS (kN b x), kS (kN b y), kS (kN b z)]) hc) ?_
  have b1 := cnt_bd2 _ (kN_le b x) _ (kN_le b y) _ (kN_le b z)
  exact h _ _ _ b1.1 b1.2 (cnt_even2 _ (kN_le b x) _ (kN_le b y) _ (kN_le b z))
end
theorem lv_mem {x y z most : Nat} {tx ty tz : Tok} {k : Int} (h : k ∈ ([((x : Int), tx), ((y : Int), ty), ((z : Int), tz)] : List (Int × Tok)).map (·.1)) (hx : x ≤ most) (hy : y ≤ most) (hz : z ≤ most) : 0 ≤ k ∧ k ≤ (most : Int) := by
  simp only [List.map_cons, List.map_nil, List.mem_cons, List.not_mem_nil, or_false] at h
  omega
theorem int_beq0 (c : Int) : (c == 0) = decide (c = 0) := by rw [Bool.eq_iff_iff]; simp
theorem lv_end1 {b x y z : Nat} {c1 c2 : Int} (h1 : c1.fmod 2 = 0) (hc : decide (c1.fmod 2 = 0) = evn1 (kN b x) (kN b y) (kN b z)) (hd : decide (c2.fmod 2 = 0) = evn2 (kN b x) (kN b y) (kN b z)) : (c2.fmod 2 == 0) = lev b x y z := by
  unfold lev; rw [levK_eq, ← hc, ← hd, decide_eq_true h1, Bool.true_and, int_beq0]
theorem lv_end2 {b x y z : Nat} {c1 : Int} (h1 : c1.fmod 2 ≠ 0) (hc : decide (c1.fmod 2 = 0) = evn1 (kN b x) (kN b y) (kN b z)) : (c1.fmod 2 == 0) = lev b x y z := by
  unfold lev; rw [levK_eq, ← hc, decide_eq_false h1, Bool.false_and, int_beq0, decide_eq_false h1]
end Mine
end
section
open PySem PySem.W PyProof.Rows PySem.Calls
set_option linter.unusedVariables false
set_option maxRecDepth 100000
namespace Mine
open Builtin.Str StrLaws
/-! law 2: the game -/
def halfI (h : Int) : Int := ((h.toNat / 2 : Nat) : Int)
def mvk (hs : List Int) (k : Nat) : List (List Int) := if 0 < hs.getD k 0 then [hs.take k ++ [hs.getD k 0 - 1] ++ hs.drop (k + 1), hs.take k ++ [halfI (hs.getD k 0)] ++ hs.drop (k + 1)] else []
def mvs (hs : List Int) (k : Nat) : List (List Int) := (List.range k).flatMap (mvk hs)
theorem mvs_succ (hs : List Int) (k : Nat) : mvs hs (k + 1) = mvs hs k ++ mvk hs k := by unfold mvs; rw [List.range_succ, List.flatMap_append]; simp
def levI (b : Nat) (hs : List Int) : Bool := lev b (hs.getD 0 0).toNat (hs.getD 1 0).toNat (hs.getD 2 0).toNat
abbrev Gs := Bool × Nat × Nat × Nat
def VS : List Gs := [(false, 0, 0, 0), (true, 0, 2, 2), (true, 0, 2, 1), (true, 0, 1, 2), (true, 0, 1, 1), (true, 2, 0, 0), (true, 2, 0, 1), (true, 2, 1, 0), (true, 1, 0, 2), (true, 1, 2, 0)]
def stOf (b n : Nat) : Gs := (decide (0 < n), kN b n, if n = 0 then 0 else kN b (n - 1), if n = 0 then 0 else kN b (n / 2))
def stChk (b : Nat) : Bool := (List.range 24).all fun n => VS.contains (stOf b n)
theorem stChk0 : stChk 0 = true := by decide +kernel
theorem stChk1 : stChk 1 = true := by decide +kernel
theorem st_mem {b n : Nat} (hb : b ≤ 1) (hn : n ≤ 23) : stOf b n ∈ VS := by
  have h : stChk b = true := by
    have : b = 0 ∨ b = 1 := by omega
    rcases this with rfl | rfl
    · exact stChk0
    · exact stChk1
  have := List.all_eq_true.mp h n (List.mem_range.mpr (by omega))
  simpa using this
def gchk (s1 s2 s3 : Gs) : Bool :=
  levK s1.2.1 s2.2.1 s3.2.1 == !((s1.1 && (levK s1.2.2.1 s2.2.1 s3.2.1 || levK s1.2.2.2 s2.2.1 s3.2.1)) || ((s2.1 && (levK s1.2.1 s2.2.2.1 s3.2.1 || levK s1.2.1 s2.2.2.2 s3.2.1)) || (s3.1 && (levK s1.2.1 s2.2.1 s3.2.2.1 || levK s1.2.1 s2.2.1 s3.2.2.2))))
def gchkAll : Bool := VS.all fun s1 => VS.all fun s2 => VS.all fun s3 => gchk s1 s2 s3
theorem gchkAll_ok : gchkAll = true := by decide +kernel
theorem gchk_of {s1 s2 s3 : Gs} (h1 : s1 ∈ VS) (h2 : s2 ∈ VS) (h3 : s3 ∈ VS) : gchk s1 s2 s3 = true :=
  List.all_eq_true.mp (List.all_eq_true.mp (List.all_eq_true.mp gchkAll_ok s1 h1) s2 h2) s3 h3
theorem mvk_any (hs : List Int) (k : Nat) (f : List Int → Bool) : (mvk hs k).any f = (decide (0 < hs.getD k 0) && (f (hs.take k ++ [hs.getD k 0 - 1] ++ hs.drop (k + 1)) || f (hs.take k ++ [halfI (hs.getD k 0)] ++ hs.drop (k + 1)))) := by
  unfold mvk
  split
  · rename_i h; simp only [List.any_cons, List.any_nil, Bool.or_false, decide_eq_true h, Bool.true_and]
  · rename_i h; simp only [List.any_nil, decide_eq_false h, Bool.false_and]
theorem mvs_any (x y z : Int) (f : List Int → Bool) : (mvs [x, y, z] 3).any f =
    ((decide (0 < x) && (f [x - 1, y, z] || f [halfI x, y, z])) || ((decide (0 < y) && (f [x, y - 1, z] || f [x, halfI y, z])) || (decide (0 < z) && (f [x, y, z - 1] || f [x, y, halfI z])))) := by
  have e : mvs [x, y, z] 3 = mvk [x, y, z] 0 ++ (mvk [x, y, z] 1 ++ mvk [x, y, z] 2) := by
    rw [mvs_succ, mvs_succ, mvs_succ]; simp [mvs]
  rw [e, List.any_append, List.any_append, mvk_any, mvk_any, mvk_any]
  rfl
theorem and_ite {p : Prop} [Decidable p] {a b : Bool} (h : p → a = b) : (decide p && a) = (decide p && b) := by
  by_cases hp : p
  · rw [h hp]
  · rw [decide_eq_false hp]; rfl
theorem game {b : Nat} {x y z : Int} (hb : b ≤ 1) (hx : 0 ≤ x ∧ x ≤ 23) (hy : 0 ≤ y ∧ y ≤ 23) (hz : 0 ≤ z ∧ z ≤ 23) : levI b [x, y, z] = !((mvs [x, y, z] 3).any (levI b)) := by
  obtain ⟨x, rfl⟩ := Int.eq_ofNat_of_zero_le hx.1
  obtain ⟨y, rfl⟩ := Int.eq_ofNat_of_zero_le hy.1
  obtain ⟨z, rfl⟩ := Int.eq_ofNat_of_zero_le hz.1
  have h := gchk_of (st_mem (n := x) hb (by omega)) (st_mem (n := y) hb (by omega)) (st_mem (n := z) hb (by omega))
  unfold gchk at h
  rw [beq_iff_eq] at h
  rw [mvs_any]
  have e1 : ∀ n : Nat, ((n : Int) - 1).toNat = n - 1 := by intro n; omega
  have e2 : ∀ n : Nat, (halfI (n : Int)).toNat = n / 2 := by intro n; unfold halfI; omega
  have e3 : ∀ n : Nat, ((n : Int)).toNat = n := by intro n; omega
  have e4 : ∀ n : Nat, decide ((0 : Int) < (n : Int)) = decide (0 < n) := by intro n; exact decide_eq_decide.mpr (by omega)
  have l : ∀ a c d : Int, levI b [a, c, d] = levK (kN b a.toNat) (kN b c.toNat) (kN b d.toNat) := fun _ _ _ => rfl
  rw [l, e3, e3, e3]
  show levK (kN b x) (kN b y) (kN b z) = _
  have h' : levK (kN b x) (kN b y) (kN b z) = _ := h
  rw [h']
  congr 1
  simp only [l, e1, e2, e3, e4]
  unfold stOf
  dsimp only
  congr 1
  · refine and_ite fun hp => ?_
    rw [if_neg (by omega), if_neg (by omega)]
  congr 1
  · refine and_ite fun hp => ?_
    rw [if_neg (by omega), if_neg (by omega)]
  · refine and_ite fun hp => ?_
    rw [if_neg (by omega), if_neg (by omega)]
theorem filt_nil {b : Nat} {l : List (List Int)} : (l.filter (levI b) = []) ↔ l.any (levI b) = false := by
  rw [List.filter_eq_nil_iff]
  constructor
  · intro h
    rw [List.any_eq_false]
    exact h
  · intro h
    rw [List.any_eq_false] at h
    exact h
theorem game_nil {b : Nat} {x y z : Int} (hb : b ≤ 1) (hx : 0 ≤ x ∧ x ≤ 23) (hy : 0 ≤ y ∧ y ≤ 23) (hz : 0 ≤ z ∧ z ≤ 23) : levI b [x, y, z] = decide ((mvs [x, y, z] 3).filter (levI b) = []) := by
  rw [game hb hx hy hz]
  cases h : (mvs [x, y, z] 3).any (levI b)
  · rw [decide_eq_true (filt_nil.mpr h)]; rfl
  · rw [decide_eq_false (fun e => by rw [filt_nil.mp e] at h; cases h)]; rfl
end Mine
end
section
open PySem PySem.W PyProof.Rows PySem.Calls
set_option linter.unusedVariables false
set_option maxRecDepth 100000
namespace Mine
section
variable {prog : Program} {w : World} {A : Around} {E : Value → Shared → Prop} {s : Shared} {env : Env} {h₀ : Heap} {L D : Addr} {m : Str → Option Value} {news : List (Addr × Obj)} {n : Nat} {body : List Stmt}
theorem pick_upto (l : List (Int × Tok)) {y : Int} (h : 0 ≤ y) : (slicePick (iv l).toArray none (some y) none).toList = iv (l.take y.toNat) := by
  have e : sliceBounds none (some y) none (iv l).toArray.size = (((0 : Nat) : Int), ((min y.toNat (iv l).toArray.size : Nat) : Int), 1) := by
    simp only [sliceBounds, Option.getD_none, show (1 : Int) > 0 by decide, if_true, if_neg (show ¬ (y < 0) by omega)]
    congr 1
    congr 1
    omega
  rw [kmk_pick_nat _ e]
  show ((iv l).drop 0).take (min y.toNat (iv l).toArray.size - 0) = _
  rw [List.drop_zero, Nat.sub_zero, List.size_toArray, kmk_take_min]
  unfold iv; rw [List.map_take]
theorem pick_from (l : List (Int × Tok)) {x : Int} (h : 0 ≤ x) : (slicePick (iv l).toArray (some x) none none).toList = iv (l.drop x.toNat) := by
  have e : sliceBounds (some x) none none (iv l).toArray.size = (((min x.toNat (iv l).toArray.size : Nat) : Int), (((iv l).toArray.size : Nat) : Int), 1) := by
    simp only [sliceBounds, Option.getD_none, show (1 : Int) > 0 by decide, if_true, if_neg (show ¬ (x < 0) by omega)]
    congr 1
    omega
  rw [kmk_pick_nat _ e]
  show ((iv l).drop (min x.toNat (iv l).toArray.size)).take ((iv l).toArray.size - min x.toNat (iv l).toArray.size) = _
  rw [List.size_toArray, kmk_drop_min, List.take_of_length_le (by rw [List.length_drop]; omega)]
  unfold iv; rw [List.map_drop]
theorem take_led {l : List (Int × Tok)} {value slice : PySem.Expr} {y : Int} {t : Tok} {Q : Value → Shared → Prop} (F : Fr h₀ L s.heap m) (N : News h₀ L s.heap news) (hm : (D, listOf (iv l).toArray n) ∈ news) (h0 : 0 ≤ y) (hz : l.length ≤ 1000)
    (h : ∀ D h', Fr h₀ L h' m → News h₀ L h' ((D, listOf (iv (l.take y.toNat)).toArray 0) :: news) → (∀ p ∈ news, p.1 < D) → Q (.ref D) { s with heap := h' })
    (hs : subscripted slice false (.ref D) (.ref s.heap.objs.size) = operate [.ref s.heap.objs.size, .ref D] (getItem (.ref D) (.ref s.heap.objs.size))) (ht : ∀ r, letTemporaryGo value (.ref D) r = pure ()) :
    wpAny (model prog w) A (subscriptTail value slice (.ref D) (.ref s.heap.objs.size)) Q E { s with heap := s.heap.push { cls := .type "slice", data := .fields #[.none, .int y t, .none] } } :=
  kmk_slice_lit (its := (iv l).toArray) F N ⟨_, (N _ hm).1, rfl, n, rfl⟩ IsPart.none (IsPart.int _ _) (pick_upto l h0) h hs ht (by simp only [List.size_toArray, iv_len, sizeLine_eq]; omega)
theorem drop_led {l : List (Int × Tok)} {value slice : PySem.Expr} {y : Int} {t : Tok} {Q : Value → Shared → Prop} (F : Fr h₀ L s.heap m) (N : News h₀ L s.heap news) (hm : (D, listOf (iv l).toArray n) ∈ news) (h0 : 0 ≤ y) (hz : l.length ≤ 1000)
    (h : ∀ D h', Fr h₀ L h' m → News h₀ L h' ((D, listOf (iv (l.drop y.toNat)).toArray 0) :: news) → (∀ p ∈ news, p.1 < D) → Q (.ref D) { s with heap := h' })
    (hs : subscripted slice false (.ref D) (.ref s.heap.objs.size) = operate [.ref s.heap.objs.size, .ref D] (getItem (.ref D) (.ref s.heap.objs.size))) (ht : ∀ r, letTemporaryGo value (.ref D) r = pure ()) :
    wpAny (model prog w) A (subscriptTail value slice (.ref D) (.ref s.heap.objs.size)) Q E { s with heap := s.heap.push { cls := .type "slice", data := .fields #[.int y t, .none, .none] } } :=
  kmk_slice_lit (its := (iv l).toArray) F N ⟨_, (N _ hm).1, rfl, n, rfl⟩ (IsPart.int _ _) IsPart.none (pick_from l h0) h hs ht (by simp only [List.size_toArray, iv_len, sizeLine_eq]; omega)
end
/-! the moves in the ledger -/
abbrev Mv := Addr × List (Int × Tok)
def ob (a : Mv) : Addr × Obj := (a.1, listOf (iv a.2).toArray 0)
def rf (a : Mv) : Value := .ref a.1
def vl (a : Mv) : List Int := a.2.map (·.1)
def mvL (hs : List Int) (k : Nat) (ws : List Int) : List (List Int) := ws.map fun v => hs.take k ++ [v] ++ hs.drop (k + 1)
theorem mvk_pos {hs : List Int} {k : Nat} {w0 w1 : Int} (h : 0 < hs.getD k 0) (e0 : w0 = hs.getD k 0 - 1) (e1 : w1 = halfI (hs.getD k 0)) : mvk hs k = mvL hs k [w0, w1] := by
  subst e0 e1
  unfold mvk; rw [if_pos h]; rfl
theorem mvk_zero {hs : List Int} {k : Nat} (h : ¬ 0 < hs.getD k 0) : mvk hs k = [] := by unfold mvk; rw [if_neg h]
section
variable {prog : Program} {w : World} {A : Around} {E : Value → Shared → Prop} {s : Shared} {env : Env} {h₀ : Heap} {L : Addr} {m : Str → Option Value} {news : List (Addr × Obj)} {n : Nat} {body : List Stmt} {Q : Flow → Shared → Prop}
def GkJ (M : Addr) (hs : List Int) (rest : List (Addr × Obj)) (m₀ : Str → Option Value) (_ : List (Addr × Obj)) (k : Nat) (m : Str → Option Value) (nx : List (Addr × Obj)) : Prop :=
  ∃ (mv : List Mv) (n : Nat) (u1 u2 : Option Value), nx = (M, listOf (mv.map rf).toArray n) :: (rest ++ mv.map ob) ∧ mv.map vl = mvs hs k ∧ (∀ a ∈ mv, @LT.lt Nat _ M a.1) ∧
    m = fun z => if z = Str.ofString "k" then u1 else if z = Str.ofString "left" then u2 else m₀ z
theorem gk_iter {M r : Addr} {n0 : Nat} {hs : List Int} {t₀ u₀ v₀ : Tok} {rest : List (Addr × Obj)} {m₀ : Str → Option Value}
    (hh : A.handled = none) (hr : IsRange s.heap r 0 3 1 t₀ u₀ v₀) (F : Fr h₀ env.locals s.heap m₀) (N : News h₀ env.locals s.heap ((M, listOf #[] n0) :: rest))
    (turn : ∀ k t (mv : List Mv) n (u2 : Option Value) h tk I oI, k < 3 → mv.map vl = mvs hs k → (∀ a ∈ mv, @LT.lt Nat _ M a.1) → M ≠ I → (∀ p ∈ rest, p.1 ≠ I) → (∀ a ∈ mv, a.1 ≠ I) → (∀ p ∈ (M, listOf #[] n0) :: rest, p.1 < I) →
      Fr h₀ env.locals h (fun z => if z = Str.ofString "k" then some (.int (0 + (k : Int)) t) else if z = Str.ofString "left" then u2 else m₀ z) →
      News h₀ env.locals h ((I, oI) :: (M, listOf (mv.map rf).toArray n) :: (rest ++ mv.map ob)) →
      wpAny (model prog w) A (execs body env) (RgPost h₀ env.locals (GkJ M hs rest m₀ [] (k + 1)) I oI { s with heap := h, toks := tk } Q) E { s with heap := h, toks := tk })
    (done : ∀ (mv : List Mv) n (u1 u2 : Option Value) h tk, mv.map vl = mvs hs 3 → (∀ a ∈ mv, @LT.lt Nat _ M a.1) →
      Fr h₀ env.locals h (fun z => if z = Str.ofString "k" then u1 else if z = Str.ofString "left" then u2 else m₀ z) →
      News h₀ env.locals h ((M, listOf (mv.map rf).toArray n) :: (rest ++ mv.map ob)) → Q .next { s with heap := h, toks := tk }) :
    wpAny (model prog w) A (pyIter (.ref r)) (fun it s₂ => LoopAtV prog w A h₀ env (Str.ofString "k") body Q E it s₂) E s := by
  refine iter_rng (fun m₀ _ => GkJ M hs rest m₀ []) (n := 3) hh hr (by decide) (range_n (by decide)) F N ⟨[], n0, m₀ _, m₀ _, by simp, rfl, by simp, up2_of rfl rfl (fun _ _ _ => rfl)⟩ ?_ ?_
  · rintro k t m₁ nx h tk I oI hk ⟨mv, n, u1, u2, rfl, hv, hM, rfl⟩ hne low F' N'
    refine turn k t mv n u2 h tk I oI hk hv hM (hne _ (.head _)) (fun p hp => hne p (.tail _ (List.mem_append.mpr (.inl hp)))) (fun a ha => hne (ob a) (.tail _ (List.mem_append.mpr (.inr (List.mem_map.mpr ⟨a, ha, rfl⟩))))) low ?_ N'
    have e : (fun y => if y = Str.ofString "k" then some (Value.int (0 + (k : Int)) t) else (fun z => if z = Str.ofString "k" then u1 else if z = Str.ofString "left" then u2 else m₀ z) y)
      = fun z => if z = Str.ofString "k" then some (.int (0 + (k : Int)) t) else if z = Str.ofString "left" then u2 else m₀ z := by
      funext y
      by_cases h1 : y = Str.ofString "k"
      · rw [if_pos h1, if_pos h1]
      · rw [if_neg h1, if_neg h1]; dsimp only; rw [if_neg h1]
    rw [← e]; exact F'
  · rintro m₁ nx h tk ⟨mv, n, u1, u2, rfl, hv, hM, rfl⟩ F' N'
    exact done mv n u1 u2 h tk hv hM F' N'
theorem gk_end {M I : Addr} {oI : Obj} {hs : List Int} {rest news led : List (Addr × Obj)} {k n : Nat} {mv : List Mv} {m₀ m' : Str → Option Value} {s₁ : Shared} {h' : Heap} {tk : Nat}
    (F : Fr h₀ L h' m') (N : News h₀ L h' led) (hsub : ∀ p ∈ (I, oI) :: (M, listOf (mv.map rf).toArray n) :: (rest ++ mv.map ob), p ∈ led) (h1 : M ≠ I) (h2 : ∀ p ∈ rest, p.1 ≠ I) (h3 : ∀ a ∈ mv, a.1 ≠ I) (hv : mv.map vl = mvs hs (k + 1)) (hM : ∀ a ∈ mv, @LT.lt Nat _ M a.1)
    (ho : ∀ z, z ≠ Str.ofString "k" → z ≠ Str.ofString "left" → m' z = m₀ z) :
    RgEnd h₀ L (GkJ M hs rest m₀ news (k + 1)) I oI s₁ { s₁ with heap := h', toks := tk } :=
  .intro F N hsub (List.forall_mem_cons.mpr ⟨h1, fun p hp => by
    rcases List.mem_append.mp hp with hp | hp
    · exact h2 p hp
    · obtain ⟨a, ha, rfl⟩ := List.mem_map.mp hp
      exact h3 a ha⟩) ⟨mv, n, m' _, m' _, rfl, hv, hM, up2_of rfl rfl ho⟩

/-- the two that may be left -/
def GlJ (D2 M : Addr) (o2 : Obj) (O : Addr × Obj) (hs : List Int) (kk : Nat) (base : List (List Int)) (ws : List Int) (rest : List (Addr × Obj)) (m₀ : Str → Option Value) (i : Nat) (m : Str → Option Value) (nx : List (Addr × Obj)) : Prop :=
  ∃ (mv : List Mv) (n : Nat) (u : Option Value), nx = (D2, o2) :: O :: (M, listOf (mv.map rf).toArray n) :: (rest ++ mv.map ob) ∧ mv.map vl = base ++ mvL hs kk (ws.take i) ∧ (∀ a ∈ mv, @LT.lt Nat _ M a.1 ∧ a.1 ≠ O.1) ∧
    m = fun z => if z = Str.ofString "left" then u else m₀ z
theorem gl_iter {D2 M : Addr} {O : Addr × Obj} {n0 nn kk : Nat} {hs : List Int} {w0 w1 : Int} {t0 t1 : Tok} {rest : List (Addr × Obj)} {m₀ : Str → Option Value} {mv0 : List Mv} {base : List (List Int)}
    (hh : A.handled = none) (F : Fr h₀ env.locals s.heap m₀) (N : News h₀ env.locals s.heap ((D2, listOf #[Value.int w0 t0, Value.int w1 t1] nn) :: O :: (M, listOf (mv0.map rf).toArray n0) :: (rest ++ mv0.map ob)))
    (hb : mv0.map vl = base) (hM : ∀ a ∈ mv0, @LT.lt Nat _ M a.1 ∧ a.1 ≠ O.1)
    (turn : ∀ i (wv : Int) tv (mv : List Mv) n h tk I oI, mv.map vl = base ++ mvL hs kk ([w0, w1].take i) → mvL hs kk ([w0, w1].take (i + 1)) = mvL hs kk ([w0, w1].take i) ++ [hs.take kk ++ [wv] ++ hs.drop (kk + 1)] → (wv = w0 ∨ wv = w1) →
      (∀ a ∈ mv, @LT.lt Nat _ M a.1 ∧ a.1 ≠ O.1) → D2 ≠ I → O.1 ≠ I → M ≠ I → (∀ p ∈ rest, p.1 ≠ I) → (∀ a ∈ mv, a.1 ≠ I) →
      (∀ p ∈ (D2, listOf #[Value.int w0 t0, Value.int w1 t1] nn) :: O :: (M, listOf (mv0.map rf).toArray n0) :: (rest ++ mv0.map ob), p.1 < I) →
      Fr h₀ env.locals h (fun z => if z = Str.ofString "left" then some (.int wv tv) else m₀ z) →
      News h₀ env.locals h ((I, oI) :: (D2, listOf #[Value.int w0 t0, Value.int w1 t1] nn) :: O :: (M, listOf (mv.map rf).toArray n) :: (rest ++ mv.map ob)) →
      wpAny (model prog w) A (execs body env) (LedPost h₀ env.locals (GlJ D2 M (listOf #[Value.int w0 t0, Value.int w1 t1] nn) O hs kk base [w0, w1] rest m₀ (i + 1)) I oI (D2, listOf #[Value.int w0 t0, Value.int w1 t1] nn) { s with heap := h, toks := tk } Q) E { s with heap := h, toks := tk })
    (done : ∀ (mv : List Mv) n (u : Option Value) h tk, mv.map vl = base ++ mvL hs kk [w0, w1] → (∀ a ∈ mv, @LT.lt Nat _ M a.1 ∧ a.1 ≠ O.1) →
      Fr h₀ env.locals h (fun z => if z = Str.ofString "left" then u else m₀ z) →
      News h₀ env.locals h ((D2, listOf #[Value.int w0 t0, Value.int w1 t1] nn) :: O :: (M, listOf (mv.map rf).toArray n) :: (rest ++ mv.map ob)) → Q .next { s with heap := h, toks := tk }) :
    wpAny (model prog w) A (pyIter (.ref D2)) (fun it s₂ => LoopAtV prog w A h₀ env (Str.ofString "left") body Q E it s₂) E s := by
  refine iter_led (vs := [Value.int w0 t0, Value.int w1 t1]) (GlJ D2 M (listOf #[Value.int w0 t0, Value.int w1 t1] nn) O hs kk base [w0, w1] rest m₀) hh (.head _) F N ⟨mv0, n0, m₀ _, rfl, by rw [hb]; simp [mvL], hM, up1_of rfl fun _ _ => rfl⟩ ?_ ?_
  · rintro i v m₁ news₁ h tk I oI hv hD hne low ⟨mv, n, u, rfl, hvl, hMv, rfl⟩ F' N'
    have hi : ∃ wv tv, v = .int wv tv ∧ (wv = w0 ∨ wv = w1) ∧ mvL hs kk ([w0, w1].take (i + 1)) = mvL hs kk ([w0, w1].take i) ++ [hs.take kk ++ [wv] ++ hs.drop (kk + 1)] := by
      match i, hv with
      | 0, hv => exact ⟨w0, t0, (Option.some.inj hv).symm, .inl rfl, rfl⟩
      | 1, hv => exact ⟨w1, t1, (Option.some.inj hv).symm, .inr rfl, rfl⟩
    obtain ⟨wv, tv, rfl, hw, hstep⟩ := hi
    refine turn i wv tv mv n h tk I oI hvl hstep hw hMv (hne _ (.head _)) (hne _ (.tail _ (.head _))) (hne _ (.tail _ (.tail _ (.head _)))) (fun p hp => hne p (.tail _ (.tail _ (.tail _ (List.mem_append.mpr (.inl hp))))))
      (fun a ha => hne (ob a) (.tail _ (.tail _ (.tail _ (List.mem_append.mpr (.inr (List.mem_map.mpr ⟨a, ha, rfl⟩))))))) low ?_ N'
    have e : (fun y => if y = Str.ofString "left" then some (Value.int wv tv) else (fun z => if z = Str.ofString "left" then u else m₀ z) y) = fun z => if z = Str.ofString "left" then some (.int wv tv) else m₀ z := by
      funext y
      by_cases h1 : y = Str.ofString "left"
      · rw [if_pos h1, if_pos h1]
      · rw [if_neg h1, if_neg h1]; dsimp only; rw [if_neg h1]
    rw [← e]; exact F'
  · rintro m₁ news₁ h tk hD ⟨mv, n, u, rfl, hvl, hMv, rfl⟩ F' N'
    exact done mv n u h tk hvl hMv F' N'
theorem gl_end {D2 M I : Addr} {oI o2 : Obj} {pD : Addr × Obj} {O : Addr × Obj} {hs : List Int} {kk i n : Nat} {base : List (List Int)} {ws : List Int} {rest led : List (Addr × Obj)} {mv : List Mv} {m₀ m' : Str → Option Value} {s₁ : Shared} {h' : Heap} {tk : Nat}
    (F : Fr h₀ L h' m') (N : News h₀ L h' led) (hsub : ∀ p ∈ (I, oI) :: (D2, o2) :: O :: (M, listOf (mv.map rf).toArray n) :: (rest ++ mv.map ob), p ∈ led) (hpD : pD = (D2, o2)) (h0 : D2 ≠ I) (hO : O.1 ≠ I) (h1 : M ≠ I) (h2 : ∀ p ∈ rest, p.1 ≠ I) (h3 : ∀ a ∈ mv, a.1 ≠ I)
    (hv : mv.map vl = base ++ mvL hs kk (ws.take (i + 1))) (hM : ∀ a ∈ mv, @LT.lt Nat _ M a.1 ∧ a.1 ≠ O.1)
    (ho : ∀ z, z ≠ Str.ofString "left" → m' z = m₀ z) :
    LedEnd h₀ L (GlJ D2 M o2 O hs kk base ws rest m₀ (i + 1)) I oI pD s₁ { s₁ with heap := h', toks := tk } :=
  .intro F N hsub (List.forall_mem_cons.mpr ⟨h0, List.forall_mem_cons.mpr ⟨hO, List.forall_mem_cons.mpr ⟨h1, fun p hp => by
    rcases List.mem_append.mp hp with hp | hp
    · exact h2 p hp
    · obtain ⟨a, ha, rfl⟩ := List.mem_map.mp hp
      exact h3 a ha⟩⟩⟩) (by rw [hpD]; exact .head _) ⟨mv, n, m' _, rfl, hv, hM, up1_of rfl ho⟩
end
end Mine
end
section
open PySem PySem.W PyProof.Rows PySem.Calls
set_option linter.unusedVariables false
set_option maxRecDepth 100000
namespace Mine
/-! eight cells and their sum -/
def sumI (l : List (Int × Tok)) : Int := (l.map (·.1)).sum
theorem sumI_set {c d : Int} {t0 t : Tok} : ∀ (cs : List (Int × Tok)) (k : Nat), cs[k]? = some (c, t0) → sumI (cs.set k (c + d, t)) = sumI cs + d
  | [], _, h => by simp at h
  | x :: r, 0, h => by
    have e : x = (c, t0) := by simpa using h
    subst e
    simp only [sumI, List.set_cons_zero, List.map_cons, List.sum_cons]; omega
  | x :: r, k + 1, h => by
    have ih := sumI_set (c := c) (d := d) (t0 := t0) (t := t) r k (by simpa using h)
    simp only [sumI, List.set_cons_succ, List.map_cons, List.sum_cons] at ih ⊢; omega
section
variable {prog : Program} {w : World} {A : Around} {E : Value → Shared → Prop} {s : Shared} {h₀ : Heap} {L D : Addr} {m : Str → Option Value} {news news' : List (Addr × Obj)} {n : Nat} {cs : List (Int × Tok)}
theorem ck_set {k : Int} {u : Tok} {c d : Int} {t t0 : Tok} {tail : List (Addr × Obj)} {Q : Unit → Shared → Prop} (F : Fr h₀ L s.heap m) (N : News h₀ L s.heap ((D, listOf (iv cs).toArray n) :: tail)) (hD : ∀ p ∈ tail, p.1 ≠ D) (h0 : 0 ≤ k) (hk : k < (cs.length : Int)) (hn : cs.length ≤ 1000) (hp : ∀ p ∈ cs, 0 ≤ p.1)
    (hg : cs[k.toNat]? = some (c, t0)) (hc : 0 ≤ c + d)
    (h : ∀ h' cs', cs'.length = cs.length → (∀ p ∈ cs', 0 ≤ p.1) → sumI cs' = sumI cs + d → Fr h₀ L h' m → News h₀ L h' ((D, listOf (iv cs').toArray n) :: tail) → Q () { s with heap := h' }) :
    wpAny (model prog w) A (setItem (.ref D) (.int k u) (.int (c + d) t)) Q E s := by
  have hlt : k.toNat < cs.length := by omega
  refine ki_set (its := (iv cs).toArray) F N h0 (by omega) (q := (iv cs).set k.toNat (.int (c + d) t)) (by simpa using setL_of (iv cs) k.toNat (.int (c + d) t) (by rw [iv_len]; exact hlt)) (Upd.head hD) (fun h' F' N' => ?_)
  rw [iv_set] at N'
  refine h h' _ (by simp) (fun p hp' => ?_) (sumI_set _ _ hg) F' N'
  rcases List.mem_or_eq_of_mem_set hp' with h1 | h1
  · exact hp p h1
  · rw [h1]; exact hc
end
def CkJ (D : Addr) (k : Nat) (b : Int) (rest : List (Addr × Obj)) (m₀ : Str → Option Value) (i : Nat) (m : Str → Option Value) (nx : List (Addr × Obj)) : Prop :=
  ∃ (cs : List (Int × Tok)) (nn : Nat) (u1 u2 : Option Value), cs.length = k ∧ (∀ p ∈ cs, 0 ≤ p.1) ∧ sumI cs ≤ b + (i : Int) * 1000000 ∧ nx = (D, listOf (iv cs).toArray nn) :: rest ∧
    m = fun z => if z = Str.ofString "x" then u1 else if z = Str.ofString "place" then u2 else m₀ z
theorem ck_end {D : Addr} {k i nn : Nat} {b d s0 : Int} {rest own led news₁ : List (Addr × Obj)} {m₀ m' : Str → Option Value} {h₀ : Heap} {L : Addr} {s₁ : Shared} {h' : Heap} {tk : Nat} {cs : List (Int × Tok)} {Qr : Value → Shared → Prop} {Qb : Shared → Prop}
    (F : Fr h₀ L h' m') (N : News h₀ L h' led) (hs : ∀ p ∈ own ++ ((D, listOf (iv cs).toArray nn) :: rest), p ∈ led) (hl : cs.length = k) (hp : ∀ p ∈ cs, 0 ≤ p.1) (hsum : sumI cs = s0 + d) (h0 : s0 ≤ b + (i : Int) * 1000000) (hd : d < 1000000) (ha : ((D, listOf (iv cs).toArray nn) :: rest).map (·.1) = news₁.map (·.1))
    (ho : ∀ z, z ≠ Str.ofString "x" → z ≠ Str.ofString "place" → m' z = m₀ z) :
    LoopStep3 h₀ L own news₁ (CkJ D k b rest m₀ (i + 1)) s₁ Qr Qb .next { s₁ with heap := h', toks := tk } :=
  ⟨rfl, h', tk, m', _, rfl, F, fun p hp => N p (hs p hp), ha, cs, nn, m' (Str.ofString "x"), m' (Str.ofString "place"), hl, hp, by push_cast; omega, rfl, up2_of rfl rfl ho⟩
theorem ck_start {D : Addr} {k : Nat} {b : Int} {nn : Nat} {rest : List (Addr × Obj)} {m : Str → Option Value} (l : List (Int × Tok)) (hl : l.length = k) (hp : ∀ p ∈ l, 0 ≤ p.1) (hs : sumI l ≤ b) : CkJ D k b rest m 0 m ((D, listOf (iv l).toArray nn) :: rest) :=
  ⟨l, nn, m (Str.ofString "x"), m (Str.ofString "place"), hl, hp, by simpa using hs, rfl, up2_of rfl rfl (fun z h1 h2 => rfl)⟩
theorem ck_start8 {D : Addr} {nn : Nat} {rest : List (Addr × Obj)} {m : Str → Option Value} {t1 t2 t3 t4 t5 t6 t7 t8 : Tok} :
    CkJ D 8 64 rest m 0 m ((D, listOf #[.int 22 t1, .int 21 t2, .int 11 t3, .int 1 t4, .int 4 t5, .int 0 t6, .int 3 t7, .int 2 t8] nn) :: rest) :=
  ck_start [(22, t1), (21, t2), (11, t3), (1, t4), (4, t5), (0, t6), (3, t7), (2, t8)] rfl (by
    intro p hp
    simp only [List.mem_cons, List.not_mem_nil, or_false] at hp
    rcases hp with h | h | h | h | h | h | h | h <;> (subst h; simp)) (by simp [sumI])
theorem ck_news {h₀ h : Heap} {L : Addr} {a b : Addr × Obj} {own : List (Addr × Obj)} (N : News h₀ L h (own ++ [a, b])) : News h₀ L h (a :: b :: own) := fun p hp => N p (by
  simp only [List.mem_append, List.mem_cons, List.not_mem_nil, or_false] at hp ⊢
  rcases hp with h | h | h <;> simp [h])
theorem ck_sub {a b : Addr × Obj} {own : List (Addr × Obj)} : ∀ p ∈ own ++ [a, b], p ∈ a :: b :: own := fun p hp => by
  simp only [List.mem_append, List.mem_cons, List.not_mem_nil, or_false] at hp ⊢
  rcases hp with h | h | h <;> simp [h]
theorem ck_ne {D : Addr} {o : Obj} {b : Addr × Obj} {own : List (Addr × Obj)} (hb : b.1 < D) (h : ∀ p ∈ own, ∀ q ∈ [(D, o), b], p.1 ≠ q.1) : ∀ p ∈ b :: own, p.1 ≠ D := fun p hp => by
  rcases List.mem_cons.mp hp with rfl | hp
  · exact Nat.ne_of_lt hb
  · exact h p hp _ (.head _)
theorem eight_of {α : Type} {l : List α} (h : l.length = 8) : ∃ a b c d e f g i, l = [a, b, c, d, e, f, g, i] := by
  match l, h with
  | [a, b, c, d, e, f, g, i], _ => exact ⟨a, b, c, d, e, f, g, i, rfl⟩
def AllNe (D : Addr) : List (Addr × Obj) → Prop
  | [] => True
  | p :: r => (@Ne Nat p.1 D) ∧ AllNe D r
theorem allNe_of {D : Addr} : ∀ {l : List (Addr × Obj)}, (∀ p ∈ l, p.1 ≠ D) → AllNe D l
  | [], _ => trivial
  | p :: r, h => ⟨h p (.head _), allNe_of fun q hq => h q (.tail _ hq)⟩
/-! the three heaps and their moves -/
def h3 (x y z : Nat) (tx ty tz : Tok) : List (Int × Tok) := [((x : Int), tx), ((y : Int), ty), ((z : Int), tz)]
theorem h3_pack {vs : List Value} {p q r : Int} (h : IntsAre vs [p, q, r]) (hp : 0 ≤ p ∧ p ≤ 23) (hq : 0 ≤ q ∧ q ≤ 23) (hr : 0 ≤ r ∧ r ≤ 23) : ∃ (x y z : Nat) (tx ty tz : Tok), x ≤ 23 ∧ y ≤ 23 ∧ z ≤ 23 ∧ vs = iv (h3 x y z tx ty tz) := by
  obtain ⟨l, rfl, e⟩ := iv_of_ints h
  match l, e with
  | [(a, ta), (b, tb), (c, tc)], e =>
    simp only [List.map_cons, List.map_nil, List.cons.injEq, and_true] at e
    obtain ⟨rfl, rfl, rfl⟩ := e
    refine ⟨a.toNat, b.toNat, c.toNat, ta, tb, tc, by omega, by omega, by omega, ?_⟩
    have e1 : ∀ {k : Int}, 0 ≤ k → ((k.toNat : Nat) : Int) = k := fun h => by omega
    simp only [h3, e1 hp.1, e1 hq.1, e1 hr.1]
theorem heap_range (c : Int) : 0 ≤ 1 + c.fmod 23 ∧ 1 + c.fmod 23 ≤ 23 := by
  have := fmod_range c (b := 23) (by decide)
  omega
theorem h3_item {x y z most k : Nat} {tx ty tz : Tok} (hx : x ≤ most) (hy : y ≤ most) (hz : z ≤ most) (hk : k < 3) :
    ∃ (v : Nat) (t : Tok), v ≤ most ∧ (iv (h3 x y z tx ty tz))[k]? = some (.int (v : Int) t) ∧ [(x : Int), (y : Int), (z : Int)].getD k 0 = (v : Int) := by
  match k, hk with
  | 0, _ => exact ⟨x, tx, hx, rfl, rfl⟩
  | 1, _ => exact ⟨y, ty, hy, rfl, rfl⟩
  | 2, _ => exact ⟨z, tz, hz, rfl, rfl⟩
theorem h3_len {x y z : Nat} {tx ty tz : Tok} : (h3 x y z tx ty tz).length = 3 := rfl
theorem h3_fst {x y z : Nat} {tx ty tz : Tok} : (h3 x y z tx ty tz).map (·.1) = [(x : Int), (y : Int), (z : Int)] := rfl
/-- a move's list and its value -/
theorem mv_val {x y z : Nat} {tx ty tz : Tok} {k : Nat} {v : Int} {t : Tok} : ((h3 x y z tx ty tz).take k ++ [(v, t)] ++ (h3 x y z tx ty tz).drop (k + 1)).map (·.1) = [(x : Int), (y : Int), (z : Int)].take k ++ [v] ++ [(x : Int), (y : Int), (z : Int)].drop (k + 1) := by
  rw [List.map_append, List.map_append, List.map_take, List.map_drop, h3_fst]; rfl
theorem mvk_h3 {x y z most : Nat} {w : List Int} {k : Nat} (hx : x ≤ most) (hy : y ≤ most) (hz : z ≤ most) (h : w ∈ mvk [(x : Int), (y : Int), (z : Int)] k) (hk : k < 3) :
    ∃ x' y' z' : Nat, x' ≤ most ∧ y' ≤ most ∧ z' ≤ most ∧ w = [(x' : Int), (y' : Int), (z' : Int)] := by
  unfold mvk at h
  have e1 : ∀ n : Nat, halfI (n : Int) = ((n / 2 : Nat) : Int) := by intro n; simp [halfI]
  have e2 : ∀ n : Nat, 0 < (n : Int) → (n : Int) - 1 = ((n - 1 : Nat) : Int) := by intro n h; omega
  split at h
  · rename_i hp
    match k, hk with
    | 0, _ =>
      rcases List.mem_cons.mp h with rfl | h
      · exact ⟨x - 1, y, z, by omega, hy, hz, by simpa using e2 x hp⟩
      · rw [List.mem_singleton.mp h]
        exact ⟨x / 2, y, z, by omega, hy, hz, by simpa using e1 x⟩
    | 1, _ =>
      rcases List.mem_cons.mp h with rfl | h
      · exact ⟨x, y - 1, z, hx, by omega, hz, by simpa using e2 y hp⟩
      · rw [List.mem_singleton.mp h]
        exact ⟨x, y / 2, z, hx, by omega, hz, by simpa using e1 y⟩
    | 2, _ =>
      rcases List.mem_cons.mp h with rfl | h
      · exact ⟨x, y, z - 1, hx, hy, by omega, by simpa using e2 z hp⟩
      · rw [List.mem_singleton.mp h]
        exact ⟨x, y, z / 2, hx, hy, by omega, by simpa using e1 z⟩
  · cases h
theorem mvs_h3 {x y z most : Nat} {mv : List Mv} {a : Mv} (hx : x ≤ most) (hy : y ≤ most) (hz : z ≤ most) (hv : mv.map vl = mvs [(x : Int), (y : Int), (z : Int)] 3) (ha : a ∈ mv) :
    ∃ (x' y' z' : Nat) (tx ty tz : Tok), x' ≤ most ∧ y' ≤ most ∧ z' ≤ most ∧ a.2 = h3 x' y' z' tx ty tz := by
  have h : vl a ∈ mvs [(x : Int), (y : Int), (z : Int)] 3 := hv ▸ List.mem_map.mpr ⟨a, ha, rfl⟩
  obtain ⟨k, hk, hm⟩ := List.mem_flatMap.mp h
  obtain ⟨x', y', z', h1, h2, h3', e⟩ := mvk_h3 hx hy hz hm (List.mem_range.mp hk)
  obtain ⟨ad, l⟩ := a
  match l, e with
  | [(p, tp), (q, tq), (r, tr)], e =>
    simp only [vl, List.map_cons, List.map_nil, List.cons.injEq, and_true] at e
    obtain ⟨rfl, rfl, rfl⟩ := e
    exact ⟨x', y', z', tp, tq, tr, h1, h2, h3', rfl⟩
theorem mvs_len (hs : List Int) : (mvs hs 3).length ≤ 6 := by
  have h : ∀ k, (mvk hs k).length ≤ 2 := by
    intro k; unfold mvk; split
    · exact Nat.le_refl _
    · exact Nat.zero_le _
  rw [mvs_succ, mvs_succ, mvs_succ]
  have h0 := h 0
  have h1 := h 1
  have h2 := h 2
  simp only [mvs, List.range_zero, List.flatMap_nil, List.nil_append, List.length_append]
  omega
theorem mvL_len (hs : List Int) (k : Nat) (ws : List Int) : (mvL hs k ws).length = ws.length := by simp [mvL]
/-- what the level of the heaps is, by what good moves there are -/
theorem lev_good {b x y z most : Nat} {mv gd : List Mv} (hb : b ≤ 1) (hx : x ≤ most) (hy : y ≤ most) (hz : z ≤ most) (hm : most ≤ 23) (hv : mv.map vl = mvs [(x : Int), (y : Int), (z : Int)] 3) (hg : mv.filter (fun a => levI b (vl a)) = gd) : lev b x y z = decide (gd = []) := by
  have h := game_nil (b := b) (x := (x : Int)) (y := (y : Int)) (z := (z : Int)) hb (by omega) (by omega) (by omega)
  have e : (mvs [(x : Int), (y : Int), (z : Int)] 3).filter (levI b) = gd.map vl := by
    rw [← hv, ← hg, List.filter_map]; rfl
  rw [e] at h
  have h' : lev b x y z = _ := h
  rw [h']
  exact decide_eq_decide.mpr List.map_eq_nil_iff
theorem filt_t {α : Type} {p : α → Bool} {l : List α} {a : α} (h : p a = true) : (l ++ [a]).filter p = l.filter p ++ [a] := by
  rw [List.filter_append]; simp [h]
theorem filt_f {α : Type} {p : α → Bool} {l : List α} {a : α} (h : p a = false) : (l ++ [a]).filter p = l.filter p := by
  rw [List.filter_append]; simp [h]
def GfEl (news : List (Addr × Obj)) (b : Nat) (a : Mv) (y : Value) (news' : List (Addr × Obj)) : Prop := news' = news ∧ y = .ref a.1 ∧ levI b (vl a) = true
def GfNo (news : List (Addr × Obj)) (b : Nat) (a : Mv) (news' : List (Addr × Obj)) : Prop := news' = news ∧ levI b (vl a) = false
section
variable {prog : Program} {w : World} {A : Around} {h₀ : Heap} {L : Addr} {m : Str → Option Value} {env : Env} {ct elt : Expr} {x : Str} {scope : Scope} {cl : List (Str × Addr)} {s : Shared} {S : List (Addr × Obj) → Prop} {Fin : List Value → List (Addr × Obj) → Prop} {news : List (Addr × Obj)}
theorem gf_list {mv : List Mv} {b : Nat}
    (turn : ∀ (a : Mv) (gd : List Mv) I oI C oC D m₂ h tk (E' : Value → Shared → Prop), a ∈ mv → LCg.NsObj oC m₂ → m₂ x = some (.ref a.1) → Fr h₀ L h m → News h₀ L h ((I, oI) :: (C, oC) :: (D, LCg.lst (gd.map rf)) :: news) → LCg.Off3 I C D news → ((@Ne Nat I C) ∧ (@Ne Nat I D) ∧ (@Ne Nat C D)) →
      wpAny (model prog w) A (isTrue ct (compEnvC scope cl C env) (eval ct (compEnvC scope cl C env))) (fun ok s' => if ok = true then wpAny (model prog w) A (eval elt (compEnvC scope cl C env)) (LCg.CompEnd h₀ L m { s with heap := h, toks := tk } I oI C oC D (LCg.lst (gd.map rf)) S (fun y news' => GfEl news b a y news')) E' s'
        else LCg.CompEnd h₀ L m { s with heap := h, toks := tk } I oI C oC D (LCg.lst (gd.map rf)) S (fun _ news' => GfNo news b a news') Value.none s') E' { s with heap := h, toks := tk })
    (fin : Fin ((mv.filter fun a => levI b (vl a)).map rf) news) : LCt.CompRestT prog w A h₀ L m env ct elt x scope cl s S (fun i v => (mv.map rf).toArray[i]? = some v) Fin (mv.map rf).toArray.size 0 [] news := by
  have key : ∀ (j i : Nat), i + j = mv.length → LCt.CompRestT prog w A h₀ L m env ct elt x scope cl s S (fun i v => (mv.map rf).toArray[i]? = some v) Fin j i (((mv.take i).filter fun a => levI b (vl a)).map rf) news := by
    intro j
    induction j with
    | zero =>
      intro i hi
      have e : i = mv.length := by omega
      subst e
      rw [List.take_length]
      exact LCt.CompRestT.zero fin
    | succ j ih =>
      intro i hi
      refine LCt.CompRestT.succ ?_
      intro v I oI C oC D m₂ h tk E' hv hC hx F N off ne
      have hlt : i < mv.length := by omega
      have hv' : v = rf mv[i] := by
        have : (mv.map rf)[i]? = some v := by simpa using hv
        rw [List.getElem?_map, List.getElem?_eq_getElem hlt] at this
        exact (Option.some.inj this).symm
      rw [hv'] at hx
      have hs : mv.take (i + 1) = mv.take i ++ [mv[i]] := by rw [List.take_add_one, List.getElem?_eq_getElem hlt]; rfl
      refine wpAny_mono (turn mv[i] _ I oI C oC D m₂ h tk E' (List.getElem_mem hlt) hC hx F N off ne) (fun ok s₂ hq => ?_) fun _ _ e => e
      cases ok with
      | true =>
        simp only [if_true] at hq ⊢
        refine wpAny_mono hq (fun y s₃ hr => ?_) fun _ _ e => e
        obtain ⟨h', tk', nw, e, F', N', off', hS, hn, hy, hl⟩ := hr
        rw [hn] at N' off' hS
        refine ⟨h', tk', news, e, F', N', off', hS, ?_⟩
        have := ih (i + 1) (by omega)
        rw [hs, filt_t (p := fun a => levI b (vl a)) hl, List.map_append, List.map_cons, List.map_nil] at this
        rw [hy]
        exact this
      | false =>
        simp only [Bool.false_eq_true, if_false] at hq ⊢
        obtain ⟨h', tk', nw, e, F', N', off', hS, hn, hl⟩ := hq
        rw [hn] at N' off' hS
        refine ⟨h', tk', news, e, F', N', off', hS, ?_⟩
        have := ih (i + 1) (by omega)
        rw [hs, filt_f (p := fun a => levI b (vl a)) hl] at this
        exact this
  have := key mv.length 0 (by omega)
  simpa using this
end
section
variable {prog : Program} {w : World} {A : Around} {E : Value → Shared → Prop} {s : Shared} {h₀ : Heap} {L G O : Addr} {m : Str → Option Value} {news : List (Addr × Obj)} {n k : Nat} {gd : List Mv} {Q : Value → Shared → Prop}
theorem led_list {vs : List Value} {D : Addr} (N : News h₀ L s.heap news) (h : (D, listOf vs.toArray n) ∈ news) : s.heap.IsList D vs.toArray := ⟨_, (N _ h).1, rfl, n, rfl⟩
theorem eq_nil_t (N : News h₀ L s.heap news) (hG : (G, listOf (([] : List Value)).toArray n) ∈ news) (hO : (O, listOf #[] k) ∈ news) (hu : A.units < cLine) (h : Q (.bool true) s) : wpAny (model prog w) A (compareOp .Eq (.ref G) (.ref O)) Q E s := by
  refine SeqAt.eq_listAt (e := fun _ => true) (led_list N hG) (led_list (vs := []) N hO) rfl hu (fun j h1 => absurd h1 (Nat.not_lt_zero _)) ?_
  simpa using h
theorem eq_nil_f {v : Value} {vs : List Value} (N : News h₀ L s.heap news) (hG : (G, listOf ((v :: vs)).toArray n) ∈ news) (hO : (O, listOf #[] k) ∈ news) (hu : A.units < cLine) (h : Q (.bool false) s) : wpAny (model prog w) A (compareOp .Eq (.ref G) (.ref O)) Q E s :=
  SeqAt.eq_list_lengthsAt (led_list N hG) (led_list (vs := []) N hO) (by simp) hu h
theorem ne_nil_f (N : News h₀ L s.heap news) (hG : (G, listOf (([] : List Value)).toArray n) ∈ news) (hO : (O, listOf #[] k) ∈ news) (hu : A.units < cLine) (h : Q (.bool false) s) : wpAny (model prog w) A (compareOp .NotEq (.ref G) (.ref O)) Q E s := by
  refine SeqAt.RcNeAt.lists (e := fun _ => true) (led_list N hG) (led_list (vs := []) N hO) rfl hu (fun j h1 => absurd h1 (Nat.not_lt_zero _)) prog w E Q ?_
  simpa using h
theorem ne_nil_t {v : Value} {vs : List Value} (N : News h₀ L s.heap news) (hG : (G, listOf ((v :: vs)).toArray n) ∈ news) (hO : (O, listOf #[] k) ∈ news) (hu : A.units < cLine) (h : Q (.bool true) s) : wpAny (model prog w) A (compareOp .NotEq (.ref G) (.ref O)) Q E s :=
  SeqAt.RcNeAt.lists_lengths (led_list N hG) (led_list (vs := []) N hO) (by simp) hu prog w E Q h
theorem eq_ks_f {ks : List (Str × Tok)} (N : News h₀ L s.heap news) (hG : (G, listOf (strValues ks).toArray n) ∈ news) (hO : (O, listOf #[] k) ∈ news) (hk : ks ≠ []) (hu : A.units < cLine) (h : Q (.bool false) s) : wpAny (model prog w) A (compareOp .Eq (.ref G) (.ref O)) Q E s := by
  match ks, hk with
  | k0 :: ks, _ => exact eq_nil_f (v := .str k0.1 k0.2) (vs := strValues ks) N hG hO hu h
theorem max3_led {x y z : Nat} {tx ty tz : Tok} (hh : A.handled = none) (F : Fr h₀ L s.heap m) (N : News h₀ L s.heap news) (hm : (G, listOf (iv (h3 x y z tx ty tz)).toArray n) ∈ news) (hx : x ≤ 23) (hy : y ≤ 23) (hz : z ≤ 23)
    (h : ∀ (most : Nat) (t : Tok) h' tk, x ≤ most → y ≤ most → z ≤ most → most ≤ 23 → Fr h₀ L h' m → News h₀ L h' news → Q (.int (most : Int) t) { s with heap := h', toks := tk }) : wpAny (model prog w) A (call (.builtin "max") [.ref G]) Q E s := by
  refine max_list_N (ns := [(x : Int), (y : Int), (z : Int)]) hh F N (led_list N hm) (.cons _ _ (.cons _ _ (.cons _ _ .nil))) (by decide : 0 < 3) (fun h' M t tk F' N' hM hle => ?_)
  have h1 := hle _ (.head _)
  have h2 := hle _ (.tail _ (.head _))
  have h3 := hle _ (.tail _ (.tail _ (.head _)))
  obtain ⟨mo, rfl⟩ := Int.eq_ofNat_of_zero_le (by omega : 0 ≤ M)
  simp only [List.mem_cons, List.not_mem_nil, or_false] at hM
  exact h mo t h' tk (by omega) (by omega) (by omega) (by omega) F' N'
/-- one of the moves -/
theorem rf_led {value slice : Expr} {x : Int} {u : Tok} {N9 : Nat} (N : News h₀ L s.heap news) (hG : (G, listOf (gd.map rf).toArray n) ∈ news) (hl : gd.length = N9) (hp : 0 < N9) (hz : N9 ≤ 1000) (h : ∀ a, a ∈ gd → Q (.ref a.1) s)
    (hs : subscripted slice false (.ref G) (.int (x.fmod (N9 : Int)) u) = operate [.ref G, .int (x.fmod (N9 : Int)) u] (getItem (.ref G) (.int (x.fmod (N9 : Int)) u)) := by with_unfolding_all rfl) :
    wpAny (model prog w) A (subscriptTail value slice (.ref G) (.int (x.fmod (N9 : Int)) u)) Q E s := by
  have hr := fmod_range x (b := (N9 : Int)) (by omega)
  have hlt : (x.fmod (N9 : Int)).toNat < gd.length := by omega
  refine item_led N hG hr.1 (by omega) ?_ (h gd[(x.fmod (N9 : Int)).toNat] (List.getElem_mem hlt)) hs
  rw [List.getElem?_map, List.getElem?_eq_getElem hlt]; rfl
end
/-! the picks -/
theorem up6_of {m m' : Str → Option Value} {a b c d e f : Str} {va vb vc vd ve vf : Option Value} (ha : m' a = va) (hb : m' b = vb) (hc : m' c = vc) (hd : m' d = vd) (he : m' e = ve) (hf : m' f = vf) (ho : ∀ z, z ≠ a → z ≠ b → z ≠ c → z ≠ d → z ≠ e → z ≠ f → m' z = m z) :
    m' = fun z => if z = a then va else if z = b then vb else if z = c then vc else if z = d then vd else if z = e then ve else if z = f then vf else m z := by
  funext z
  by_cases h1 : z = a
  · rw [if_pos h1, h1, ha]
  rw [if_neg h1]
  by_cases h2 : z = b
  · rw [if_pos h2, h2, hb]
  rw [if_neg h2]
  by_cases h3 : z = c
  · rw [if_pos h3, h3, hc]
  rw [if_neg h3]
  by_cases h4 : z = d
  · rw [if_pos h4, h4, hd]
  rw [if_neg h4]
  by_cases h5 : z = e
  · rw [if_pos h5, h5, he]
  rw [if_neg h5]
  by_cases h6 : z = f
  · rw [if_pos h6, h6, hf]
  rw [if_neg h6, ho z h1 h2 h3 h4 h5 h6]
def GpM (v vh : Option Value) (u1 u2 u3 u4 : Option Value) (m₀ : Str → Option Value) : Str → Option Value := fun z =>
  if z = Str.ofString "pick" then v else if z = Str.ofString "moves" then u1 else if z = Str.ofString "k" then u2 else if z = Str.ofString "left" then u3 else if z = Str.ofString "good" then u4 else if z = Str.ofString "heaps" then vh else m₀ z
def GpJ (most : Nat) (fix : List (Addr × Obj)) (m₀ : Str → Option Value) (_ : Nat) (m : Str → Option Value) (nx : List (Addr × Obj)) : Prop :=
  ∃ (Hp : Addr) (x y z : Nat) (tx ty tz : Tok) (nH : Nat) (v u1 u2 u3 u4 : Option Value), x ≤ most ∧ y ≤ most ∧ z ≤ most ∧ nx = (Hp, listOf (iv (h3 x y z tx ty tz)).toArray nH) :: fix ∧ m = GpM v (some (.ref Hp)) u1 u2 u3 u4 m₀
section
variable {prog : Program} {w : World} {A : Around} {E : Value → Shared → Prop} {s : Shared} {env : Env} {h₀ : Heap} {L D : Addr} {m : Str → Option Value} {fix : List (Addr × Obj)} {nn most : Nat} {body : List Stmt} {Q : Flow → Shared → Prop}
theorem gp_iter {l : List (Int × Tok)} {Hp : Addr} {x y z : Nat} {tx ty tz : Tok} {nH : Nat} (hh : A.handled = none) (hl : (D, listOf (iv l).toArray nn) ∈ fix) (F : Fr h₀ env.locals s.heap m) (N : News h₀ env.locals s.heap ((Hp, listOf (iv (h3 x y z tx ty tz)).toArray nH) :: fix))
    (hx : x ≤ most) (hy : y ≤ most) (hz : z ≤ most) (hm : m (Str.ofString "heaps") = some (.ref Hp))
    (turn : ∀ (i : Nat) (c : Int) (tc : Tok) (Hp : Addr) (x y z : Nat) (tx ty tz : Tok) (nH : Nat) (u1 u2 u3 u4 : Option Value) h tk I oI, x ≤ most → y ≤ most → z ≤ most → Hp ≠ I → (∀ p ∈ fix, p.1 < I) →
      Fr h₀ env.locals h (fun z => if z = Str.ofString "pick" then some (.int c tc) else if z = Str.ofString "moves" then u1 else if z = Str.ofString "k" then u2 else if z = Str.ofString "left" then u3 else if z = Str.ofString "good" then u4 else if z = Str.ofString "heaps" then some (.ref Hp) else m z) →
      News h₀ env.locals h ((I, oI) :: (Hp, listOf (iv (h3 x y z tx ty tz)).toArray nH) :: fix) →
      wpAny (model prog w) A (execs body env) (LedPost h₀ env.locals (GpJ most fix m (i + 1)) I oI (D, listOf (iv l).toArray nn) { s with heap := h, toks := tk } Q) E { s with heap := h, toks := tk })
    (done : ∀ (Hp : Addr) (x y z : Nat) (tx ty tz : Tok) (nH : Nat) (v u1 u2 u3 u4 : Option Value) h tk, x ≤ most → y ≤ most → z ≤ most →
      Fr h₀ env.locals h (fun z => if z = Str.ofString "pick" then v else if z = Str.ofString "moves" then u1 else if z = Str.ofString "k" then u2 else if z = Str.ofString "left" then u3 else if z = Str.ofString "good" then u4 else if z = Str.ofString "heaps" then some (.ref Hp) else m z) →
      News h₀ env.locals h ((Hp, listOf (iv (h3 x y z tx ty tz)).toArray nH) :: fix) → Q .next { s with heap := h, toks := tk }) :
    wpAny (model prog w) A (pyIter (.ref D)) (fun it s₂ => LoopAtV prog w A h₀ env (Str.ofString "pick") body Q E it s₂) E s := by
  refine iter_led (vs := iv l) (GpJ most fix m) hh (.tail _ hl) F N ⟨Hp, x, y, z, tx, ty, tz, nH, m _, m _, m _, m _, m _, hx, hy, hz, rfl, up6_of rfl rfl rfl rfl rfl hm (fun _ _ _ _ _ _ _ => rfl)⟩ ?_ ?_
  · rintro i v m₁ news₁ h tk I oI hv hD hne low ⟨Hp', x', y', z', tx', ty', tz', nH', v0, u1, u2, u3, u4, hx', hy', hz', rfl, rfl⟩ F' N'
    have hc : ∃ c tc, v = .int c tc := by
      unfold iv at hv
      rw [List.getElem?_map] at hv
      obtain ⟨p, _, rfl⟩ := Option.map_eq_some_iff.mp hv
      exact ⟨_, _, rfl⟩
    obtain ⟨c, tc, rfl⟩ := hc
    refine turn i c tc Hp' x' y' z' tx' ty' tz' nH' u1 u2 u3 u4 h tk I oI hx' hy' hz' (hne _ (.head _)) (fun p hp => low p (.tail _ hp)) ?_ N'
    have e : (fun y => if y = Str.ofString "pick" then some (Value.int c tc) else GpM v0 (some (.ref Hp')) u1 u2 u3 u4 m y) = fun z => if z = Str.ofString "pick" then some (.int c tc) else if z = Str.ofString "moves" then u1 else if z = Str.ofString "k" then u2 else if z = Str.ofString "left" then u3 else if z = Str.ofString "good" then u4 else if z = Str.ofString "heaps" then some (.ref Hp') else m z := by
      funext y
      by_cases h1 : y = Str.ofString "pick"
      · rw [if_pos h1, if_pos h1]
      · rw [if_neg h1, if_neg h1]; unfold GpM; rw [if_neg h1]
    rw [← e]; exact F'
  · rintro m₁ news₁ h tk hD ⟨Hp', x', y', z', tx', ty', tz', nH', v0, u1, u2, u3, u4, hx', hy', hz', rfl, rfl⟩ F' N'
    exact done Hp' x' y' z' tx' ty' tz' nH' v0 u1 u2 u3 u4 h tk hx' hy' hz' F' N'
theorem gp_end {I M : Addr} {oI : Obj} {pD : Addr × Obj} {led : List (Addr × Obj)} {i x y z : Nat} {mv : List Mv} {a : Mv} {m₀ m' : Str → Option Value} {s₁ : Shared} {h' : Heap} {tk : Nat}
    (F : Fr h₀ L h' m') (N : News h₀ L h' led) (hI : (I, oI) ∈ led) (hf : ∀ p ∈ fix, p ∈ led) (hmv : ∀ p ∈ mv.map ob, p ∈ led) (ha : a ∈ mv) (hx : x ≤ most) (hy : y ≤ most) (hz : z ≤ most) (hv : mv.map vl = mvs [(x : Int), (y : Int), (z : Int)] 3) (hM : ∀ a ∈ mv, @LT.lt Nat _ M a.1) (hIM : @LT.lt Nat _ I M) (hfI : ∀ p ∈ fix, p.1 < I) (hD : pD ∈ fix)
    (hm : m' (Str.ofString "heaps") = some (.ref a.1)) (ho : ∀ z, z ≠ Str.ofString "pick" → z ≠ Str.ofString "moves" → z ≠ Str.ofString "k" → z ≠ Str.ofString "left" → z ≠ Str.ofString "good" → z ≠ Str.ofString "heaps" → m' z = m₀ z) :
    LedEnd h₀ L (GpJ most fix m₀ (i + 1)) I oI pD s₁ { s₁ with heap := h', toks := tk } := by
  obtain ⟨x', y', z', tx, ty, tz, h1, h2, h3', e⟩ := mvs_h3 hx hy hz hv ha
  have hob : ob a ∈ led := hmv _ (List.mem_map.mpr ⟨a, ha, rfl⟩)
  have eob : ob a = (a.1, listOf (iv (h3 x' y' z' tx ty tz)).toArray 0) := by unfold ob; rw [e]
  rw [eob] at hob
  refine LedEnd.intro (nx := (a.1, listOf (iv (h3 x' y' z' tx ty tz)).toArray 0) :: fix) F N (List.forall_mem_cons.mpr ⟨hI, List.forall_mem_cons.mpr ⟨hob, hf⟩⟩) (List.forall_mem_cons.mpr ⟨Nat.ne_of_gt (Nat.lt_trans hIM (hM a ha)), fun p hp => Nat.ne_of_lt (hfI p hp)⟩) (.tail _ hD) ?_
  exact ⟨a.1, x', y', z', tx, ty, tz, 0, m' _, m' _, m' _, m' _, m' _, h1, h2, h3', rfl, up6_of rfl rfl rfl rfl rfl hm ho⟩
end
theorem ltN_ne {a b : Addr} (h : a ≠ b) : @Ne Nat a b := h
theorem allLt_to {M : Addr} : ∀ (l : List (Addr × Obj)), AllLt M l → ∀ p ∈ l, @LT.lt Nat _ p.1 M := by
  intro l
  induction l with
  | nil => intro _ p hp; cases hp
  | cons q r ih =>
    intro h p hp
    rcases List.mem_cons.mp hp with rfl | hp
    · exact h.1
    · exact ih h.2 p hp
theorem mvs_len_k (hs : List Int) : ∀ k, (mvs hs k).length ≤ 2 * k
  | 0 => by simp [mvs]
  | k + 1 => by
    have ih := mvs_len_k hs k
    have h : (mvk hs k).length ≤ 2 := by
      unfold mvk; split
      · exact Nat.le_refl _
      · exact Nat.zero_le _
    rw [mvs_succ, List.length_append]; omega
theorem gl_len {hs ws : List Int} {k kk i : Nat} {mv : List Mv} (hv : mv.map vl = mvs hs k ++ mvL hs kk (ws.take i)) (hk : k < 3) (hw : ws.length = 2) : mv.length ≤ 1000 := by
  have e := congrArg List.length hv
  have h1 := mvs_len_k hs k
  rw [List.length_map, List.length_append, mvL_len, List.length_take] at e
  omega
theorem gk_pos {hs : List Int} {k v : Nat} {w0 w1 : Int} {mv : List Mv} (hvl : mv.map vl = mvs hs k ++ mvL hs k [w0, w1]) (hg : hs.getD k 0 = (v : Int)) (hp : (v : Int) > 0) (e0 : w0 = (v : Int) - 1) (e1 : w1 = ((v / 2 : Nat) : Int)) : mv.map vl = mvs hs (k + 1) := by
  rw [hvl, mvs_succ, mvk_pos (w0 := w0) (w1 := w1) (by rw [hg]; exact hp) (by rw [hg]; exact e0) (by rw [hg, e1]; simp [halfI])]
theorem gk_zero {hs : List Int} {k v : Nat} {mv : List Mv} (hv : mv.map vl = mvs hs k) (hg : hs.getD k 0 = (v : Int)) (hp : ¬ (v : Int) > 0) : mv.map vl = mvs hs (k + 1) := by
  rw [hv, mvs_succ, mvk_zero (by rw [hg]; exact hp), List.append_nil]
theorem gf_el {news : List (Addr × Obj)} {b : Nat} {a : Mv} (h : levI b (vl a) = true) : GfEl news b a (.ref a.1) news := ⟨rfl, rfl, h⟩
theorem gf_no {news : List (Addr × Obj)} {b : Nat} {a : Mv} (h : levI b (vl a) = false) : GfNo news b a news := ⟨rfl, h⟩
theorem mv_obj {x y z : Nat} {tx ty tz : Tok} {mv : List Mv} {a : Mv} (ha : a ∈ mv) (e : a.2 = h3 x y z tx ty tz) : (a.1, listOf (iv (h3 x y z tx ty tz)).toArray 0) ∈ mv.map ob := by
  have h : ob a ∈ mv.map ob := List.mem_map.mpr ⟨a, ha, rfl⟩
  unfold ob at h ⊢
  rw [e] at h
  exact h
theorem mv_lev {b x y z : Nat} {tx ty tz : Tok} {a : Mv} (e : a.2 = h3 x y z tx ty tz) : levI b (vl a) = lev b x y z := by
  unfold vl; rw [e]; rfl
theorem zero_nat (k : Nat) : (0 + (k : Int)).toNat = k := by omega
theorem zero_nat1 (k : Nat) : (0 + (k : Int) + 1).toNat = k + 1 := by omega
/-! a move is laid on -/
theorem news_game {h₀ h : Heap} {L : Addr} {a b c d e f g i j : Addr × Obj} (N : News h₀ L h [a, b, c, d, e, f, g, i, j]) : News h₀ L h [f, a, c, d, j] := fun p hp => N p (by
  simp only [List.mem_cons, List.not_mem_nil, or_false] at hp ⊢
  rcases hp with h | h | h | h | h <;> simp [h])
section
variable {prog : Program} {w : World} {A : Around} {E : Value → Shared → Prop} {s : Shared} {h₀ : Heap} {L M Dn : Addr} {m : Str → Option Value}
theorem mv_append {I3 D2 O : Addr × Obj} {rest led : List (Addr × Obj)} {mv : List Mv} {l : List (Int × Tok)} {n : Nat} {Q : Value → Shared → Prop} (F : Fr h₀ L s.heap m) (N : News h₀ L s.heap led) (hD : (Dn, listOf (iv l).toArray 0) ∈ led)
    (hs : ∀ p ∈ I3 :: D2 :: O :: (M, listOf (mv.map rf).toArray n) :: (rest ++ mv.map ob), p ∈ led) (h1 : M ≠ I3.1) (h2 : @LT.lt Nat _ M D2.1) (h3 : M ≠ O.1) (h4 : AllLt M rest) (h5 : @LT.lt Nat _ M Dn) (h6 : ∀ a ∈ mv, @LT.lt Nat _ M a.1) (hz : mv.length ≤ 1000)
    (h : ∀ h', Fr h₀ L h' m → News h₀ L h' (I3 :: D2 :: O :: (M, listOf ((mv ++ [(Dn, l)]).map rf).toArray (n + 1)) :: (rest ++ (mv ++ [(Dn, l)]).map ob)) → Q .none { s with heap := h' }) :
    wpAny (model prog w) A (call (.builtin "list.append") [.ref M, .ref Dn]) Q E s := by
  have N1 : News h₀ L s.heap ((M, listOf (mv.map rf).toArray n) :: I3 :: D2 :: O :: (Dn, listOf (iv l).toArray 0) :: (rest ++ mv.map ob)) := by
    intro p hp
    rcases List.mem_cons.mp hp with rfl | hp
    · exact N _ (hs _ (.tail _ (.tail _ (.tail _ (.head _)))))
    rcases List.mem_cons.mp hp with rfl | hp
    · exact N _ (hs _ (.head _))
    rcases List.mem_cons.mp hp with rfl | hp
    · exact N _ (hs _ (.tail _ (.head _)))
    rcases List.mem_cons.mp hp with rfl | hp
    · exact N _ (hs _ (.tail _ (.tail _ (.head _))))
    rcases List.mem_cons.mp hp with rfl | hp
    · exact N _ hD
    · exact N _ (hs _ (.tail _ (.tail _ (.tail _ (.tail _ hp)))))
  refine append_K F N1 (Upd.head ?_) (fun h' F' N' => h h' F' ?_) (by simp only [List.size_toArray, List.length_map, sizeLine_eq]; omega)
  · refine List.forall_mem_cons.mpr ⟨Ne.symm h1, List.forall_mem_cons.mpr ⟨Nat.ne_of_gt h2, List.forall_mem_cons.mpr ⟨Ne.symm h3, List.forall_mem_cons.mpr ⟨Nat.ne_of_gt h5, fun p hp => ?_⟩⟩⟩⟩
    rcases List.mem_append.mp hp with hp | hp
    · exact Nat.ne_of_lt (allLt_to _ h4 p hp)
    · obtain ⟨a, ha, rfl⟩ := List.mem_map.mp hp
      exact Nat.ne_of_gt (h6 a ha)
  · intro p hp
    have e : ((mv ++ [(Dn, l)]).map rf).toArray = (mv.map rf).toArray.push (.ref Dn) := by rw [List.map_append, List.push_toArray]; rfl
    rw [e] at hp
    rcases List.mem_cons.mp hp with rfl | hp
    · exact N' _ (.tail _ (.head _))
    rcases List.mem_cons.mp hp with rfl | hp
    · exact N' _ (.tail _ (.tail _ (.head _)))
    rcases List.mem_cons.mp hp with rfl | hp
    · exact N' _ (.tail _ (.tail _ (.tail _ (.head _))))
    rcases List.mem_cons.mp hp with rfl | hp
    · exact N' _ (.head _)
    rw [List.map_append, ← List.append_assoc] at hp
    rcases List.mem_append.mp hp with hp | hp
    · exact N' _ (.tail _ (.tail _ (.tail _ (.tail _ (.tail _ hp)))))
    · rw [List.map_cons, List.map_nil, List.mem_singleton] at hp
      rw [hp]
      exact N' _ (.tail _ (.tail _ (.tail _ (.tail _ (.head _)))))
theorem gl_fin {D2 I : Addr} {oI o2 : Obj} {O : Addr × Obj} {kk i n x y z : Nat} {tx ty tz tv : Tok} {wv : Int} {base : List (List Int)} {ws : List Int} {rest : List (Addr × Obj)} {mv : List Mv} {l : List (Int × Tok)} {m₀ m' : Str → Option Value} {s₁ : Shared} {h' : Heap} {tk : Nat}
    (F : Fr h₀ L h' m') (N : News h₀ L h' ((I, oI) :: (D2, o2) :: O :: (M, listOf ((mv ++ [(Dn, l)]).map rf).toArray n) :: (rest ++ (mv ++ [(Dn, l)]).map ob))) (h0 : D2 ≠ I) (hO : O.1 ≠ I) (h1 : M ≠ I) (h2 : ∀ p ∈ rest, p.1 ≠ I) (hq3 : ∀ a ∈ mv, a.1 ≠ I)
    (hv : mv.map vl = base ++ mvL [(x : Int), (y : Int), (z : Int)] kk (ws.take i))
    (hst : mvL [(x : Int), (y : Int), (z : Int)] kk (ws.take (i + 1)) = mvL [(x : Int), (y : Int), (z : Int)] kk (ws.take i) ++ [[(x : Int), (y : Int), (z : Int)].take kk ++ [wv] ++ [(x : Int), (y : Int), (z : Int)].drop (kk + 1)]) (hl : l = (h3 x y z tx ty tz).take kk ++ [(wv, tv)] ++ (h3 x y z tx ty tz).drop (kk + 1))
    (hM : ∀ a ∈ mv, @LT.lt Nat _ M a.1 ∧ a.1 ≠ O.1) (hn1 : @LT.lt Nat _ M Dn) (hn2 : @LT.lt Nat _ O.1 Dn) (hn3 : @LT.lt Nat _ I Dn)
    (ho : ∀ z, z ≠ Str.ofString "left" → m' z = m₀ z) :
    LedEnd h₀ L (GlJ D2 M o2 O [(x : Int), (y : Int), (z : Int)] kk base ws rest m₀ (i + 1)) I oI (D2, o2) s₁ { s₁ with heap := h', toks := tk } := by
  refine gl_end F N (fun p hp => hp) rfl h0 hO h1 h2 (fun a ha => ?_) ?_ (fun a ha => ?_) ho
  · rcases List.mem_append.mp ha with ha | ha
    · exact hq3 a ha
    · rw [List.mem_singleton.mp ha]; exact Nat.ne_of_gt hn3
  · rw [List.map_append, hv, hst, List.append_assoc]
    congr 2
    simp only [List.map_cons, List.map_nil, vl]
    rw [hl, mv_val]
  · rcases List.mem_append.mp ha with ha | ha
    · exact hM a ha
    · rw [List.mem_singleton.mp ha]; exact ⟨hn1, Nat.ne_of_gt hn2⟩
end
end Mine
end
section
open PySem PySem.W PyProof.Rows
set_option maxRecDepth 100000
set_option linter.unusedVariables false
noncomputable section
namespace Mine
abbrev PB : Program := PySem.Challenge.rw_ux0002_02.row.prog
abbrev KB (w : World) : Frag := hdB.heap_39 w.params
abbrev vwB := hdB.view_39
abbrev ClaimB (w : World) (mean : ExcName → Option Value) (mg mb : Str → Option Value) (f : Addr) (news : List (Addr × Obj)) (A : List (Addr × List Value × List Int)) (pre : Prop) (vs : List Value) (R : Tok → Value) : Prop :=
  CbClaim PB w (KB w) vwB (looseW vwB []) mean mg mb f news A pre vs R
theorem fillB : PySem.Challenge.rw_ux0002_02 = PySem.Challenge.rw_ux0002_02 ∧ hdB.heap_39 = hdB.heap_39 := by
  w_top off
  k_fill
  exact ⟨rfl, rfl⟩

local macro_rules | `(tactic| walk_at $s:str) => `(tactic| k_dflt k_extra $s)
local macro_rules | `(tactic| k_all) => `(tactic| (intro p' hp'; exact Nat.ne_of_lt (‹∀ p ∈ _, Prod.fst p < _› p' hp')))
local macro_rules | `(tactic| k_all) => `(tactic| (intro p' hp'; refine Nat.ne_of_lt (Nat.lt_trans (‹∀ p ∈ _, Prod.fst p < _› p' hp') ?_); omega))
set_option maxHeartbeats 600000 in
theorem ell2 (w mean mg mb) (want got : Str) (t1 t2) (news) : ClaimB w mean mg mb 42 news [] (want.length ≤ 4000 ∧ got.length ≤ 4000) [.str want t1, .str got t2] (fun _ => .bool (ellM want got)) := by
  dsimp only [ClaimB, CbClaim, CbLists, CbRet, KB, vwB, PB]
  intros
  rename_i hret
  k_with_none
  k_with "truthy str" => (k_dflt ((with_reducible rename (∀ a, a ∈ _ → Str.length a ≤ _) => hs'); first | ((have hk' := hs' _ (List.mem_of_getElem? (by assumption))); refine truthy_split (by omega) (fun _ _ => ?_) (fun _ _ => ?_)) | (refine truthy_split (Nat.le_trans (getD_len hs' _) (by omega)) (fun _ _ => ?_) (fun _ _ => ?_))))
  k_with "delItem ref int" => (k_dflt ((with_reducible rename (∀ a, a ∈ _ → Str.length a ≤ _) => hs'); (try (have hz9 := split_len (by assumption))); first | ((with_reducible show wpAny _ _ (delItem (Value.ref _) (Value.int 0 _)) _ _ _); refine' del_first ?u1F ?u1N hs' ?u1z ?u1o ?u1U ?_; (case u1F => k_asm); (case u1N => k_asm); (case u1z => omega); (case u1o => omega); (case u1U => k_upd); intro h' F' N' _ _ _ _) | ((with_reducible show wpAny _ _ (delItem (Value.ref _) (Value.int (-1) _)) _ _ _); refine' del_last ?u1F ?u1N hs' ?u1z ?u1o ?u1U ?_; (case u1F => k_asm); (case u1N => k_asm); (case u1z => omega); (case u1o => omega); (case u1U => k_upd); intro h' F' N' _ _ _ _)))
  k_with "call builtin:len" => (k_dflt ((with_reducible show wpAny _ _ (call (Value.builtin "len") [Value.str _ _]) _ _ _); (with_reducible rename (∀ a, a ∈ _ → Str.length a ≤ _) => hs'); first | refine len_str (Nat.le_trans (getD_len hs' _) (by omega)) (fun _ _ => ?_) | refine len_str (by omega) (fun _ _ => ?_)))
  k_with "exec For Name Name cons nil" => (k_here; (rename Fr _ _ _ _ => lF'); (with_unfolding_all refine' For_invVF lF' ?u3k1 ?u3k2 ?_; (case u3k1 => exact rfl); (case u3k2 => exact rfl); k_whole))
  k_with "pyIter ref" => (k_dflt ((with_reducible show wpAny _ _ (pyIter (Value.ref _)) (fun it s₂ => LoopAtV _ _ _ _ _ _ _ _ _ it s₂) _ _); (rename Fr _ _ _ _ => lF'); (rename News _ _ _ _ => lN'); (with_reducible rename (∀ a, a ∈ _ → Str.length a ≤ _) => hs'); (with_unfolding_all refine' ell_iter ?u4hh ?u4hl lF' lN' hs' ?u4g ?u4e ?u4m ?u4v (fun i' y' t' st' v' ts' h' tk' I' oI' hy' hv' hlo' hR' F' N' => ?_) (fun u' v' ts' h' tk' hR' F' N' => ?_)); (case u4hh => rfl); (case u4hl => k_mem); (case u4g => exact rfl); (case u4e => exact rfl); (case u4m => exact rfl); (case u4v => omega); (all_goals (clear lF' lN'; try k_fold))))
  k_with "call builtin:str.find" => (k_dflt ((with_reducible show wpAny _ _ (call (Value.builtin "str.find") [Value.str _ _, Value.str _ _, Value.int _ _, Value.int _ _]) _ _ _); refine' find4 (by assumption) (by omega) (by omega) (fun k' r' he' _ _ => ?_) (fun he' _ _ => ?_)))
  k_with "LedPost" => (dsimp only [LedPost])
  k_with "LedEnd" => (k_dflt (refine' ell_end (by assumption) (by assumption) (by k_asm) (by k_asm) ?u7m ?u7v ?u7o ?u7s ?u7l ?u7D; (case u7m => exact rfl); (case u7v => omega); (case u7o => (intro z h1 h2; simp only [h1, h2, if_false])); (case u7s => kcj_all); (case u7l => assumption); (case u7D => k_mem)))
  refine wpAny_call ?_
  k_dflt cell_enter
  (with_reducible rename News _ _ _ news => N0)
  have hlow : ∀ p ∈ news, p.1 < _ := fun p hp => Heap.lt_size (N0 p hp).1
  k_steps
  all_goals first
    | (exfalso; have h9 := split_ge2 (by assumption) (by assumption); omega)
    | (refine cb_retB hret ?_ (by k_asm) (by first | k_asm | (refine' cb_drop ?cbN ?cbS; (case cbN => assumption); (case cbS => kcj_all)))
       first
       | exact ell_no (by assumption)
       | exact (ell_startno (by assumption) (by assumption) (by assumption) (by assumption) (by assumption)).symm
       | (refine Eq.trans ?_ (Eq.symm (ell_tail1 (by assumption) (by assumption) (by assumption) (by assumption) (by assumption)))
          first
          | exact (tail_no (by assumption) (by assumption)).symm
          | exact (tail_gt (by assumption) (by assumption) (by assumption)).symm
          | exact (tail_gt0 (by assumption) (by assumption)).symm
          | (refine Eq.trans ?_ (Eq.symm (tail_loop (by assumption) (by assumption) (by first | assumption | omega))); first | exact Eq.symm (by assumption) | exact (loop_none (by assumption) (by assumption)).symm)
          | (refine Eq.trans ?_ (Eq.symm (tail_loop0 (by assumption) (by first | assumption | omega))); first | exact Eq.symm (by assumption) | exact (loop_none (by assumption) (by assumption)).symm))
       | (refine Eq.trans ?_ (Eq.symm (ell_tail0 (by assumption) (by assumption) (by assumption) (by assumption)))
          first
          | exact (tail_no (by assumption) (by assumption)).symm
          | exact (tail_gt (by assumption) (by assumption) (by assumption)).symm
          | exact (tail_gt0 (by assumption) (by assumption)).symm
          | (refine Eq.trans ?_ (Eq.symm (tail_loop (by assumption) (by assumption) (by first | assumption | omega))); first | exact Eq.symm (by assumption) | exact (loop_none (by assumption) (by assumption)).symm)
          | (refine Eq.trans ?_ (Eq.symm (tail_loop0 (by assumption) (by first | assumption | omega))); first | exact Eq.symm (by assumption) | exact (loop_none (by assumption) (by assumption)).symm))
       | skip)
end Mine
end
end
section
open PySem PySem.W PyProof.Rows
set_option maxRecDepth 100000
set_option linter.unusedVariables false
noncomputable section
namespace Mine
theorem fillB2 : PySem.Challenge.rw_ux0002_02 = PySem.Challenge.rw_ux0002_02 ∧ hdB.heap_39 = hdB.heap_39 := by
  w_top off
  k_fill
  exact ⟨rfl, rfl⟩


local macro_rules | `(tactic| walk_at $s:str) => `(tactic| k_dflt k_extra $s)
set_option maxHeartbeats 8000000 in
theorem par2 (w mean mg mb) (resp : Str) (R : List Nat) (t1) (news) : ClaimB w mean mg mb 74 news [] (resp.length ≤ 1000 ∧ (Txt.slice resp none (some 3) != Str.ofString "257") = false ∧ (Txt.slice resp (some 3) (some 5) != Str.ofString " \"") = false ∧ PwInv resp R 5 Str.empty) [.str resp t1] (fun t => .str ⟨R.toArray⟩ t) := by
  dsimp only [ClaimB, CbClaim, CbLists, CbRet, KB, vwB, PB]
  intros
  rename_i dp un gd cn cs a ccd cl outer A₀ base h₀ L m s Q E B F X N T hk hpre hdp hun hret
  k_with_none
  k_with "WhPost" => (dsimp only [WhPost])
  k_with "exec While Compare cons nil" => (
    (rename Fr _ _ _ _ => lF'); (rename News _ _ _ _ => lN'); 
    (refine' while_st (PwJ resp R) (fun c => resp.length - c.1) (5, Str.empty) lF' lN' ?_ ?_)
    · exact ⟨rfl, 5, none, _, _, rfl, hpre.2.2.2, up3_of rfl rfl rfl (fun z h1 h2 h3 => rfl)⟩
    rintro ⟨i, d⟩ m₁ nx h tk ⟨rfl, v, u, ti, td, hv, hI, rfl⟩ F' N'
    clear lF' lN'
    have hle := hI.le
    have hdl := hI.dl
    dsimp only at hv hle hdl
    try k_fold)
  refine wpAny_call ?_
  k_dflt cell_enter
  k_steps
  all_goals first
    | (exfalso; have h1 := hpre.2.1; have h2 := hpre.2.2.1; simp_all; done)
    | (refine cb_retS hret ?_ (by k_asm) (by k_asm); first
       | exact pw_done hI hv (by assumption)
       | exact pw_brk1 hI hv (by assumption) (by assumption) (by assumption)
       | exact pw_brk2 hI hv (by assumption) (by assumption) (by assumption) (by assumption))
    | (k_dflt (refine' pw_end (c' := (i + 2, d ++ Txt.item resp v)) (by k_asm) (by k_asm) (pw_two hI hv (by assumption) (by assumption) (by assumption) (by assumption)) ?l ?i ?v ?d ?o; (case i => exact rfl); (case d => exact rfl); (case l => (dsimp only; omega)); (case v => (dsimp only; omega)); (case o => (intro z h1 h2 h3; simp only [h1, h2, h3, if_false]))))
    | (k_dflt (refine' pw_end (c' := (i + 1, d ++ Txt.item resp v)) (by k_asm) (by k_asm) (pw_one hI hv (by assumption) (by assumption)) ?l ?i ?v ?d ?o; (case i => exact rfl); (case d => exact rfl); (case l => (dsimp only; omega)); (case v => (dsimp only; omega)); (case o => (intro z h1 h2 h3; simp only [h1, h2, h3, if_false]))))
end Mine
end
end
section
open PySem PySem.W PyProof.Rows
set_option maxRecDepth 100000
set_option linter.unusedVariables false
noncomputable section
namespace Mine
theorem fillB3 : PySem.Challenge.rw_ux0002_02 = PySem.Challenge.rw_ux0002_02 ∧ hdB.heap_39 = hdB.heap_39 := by
  w_top off
  k_fill
  exact ⟨rfl, rfl⟩
local macro_rules | `(tactic| walk_at $s:str) => `(tactic| k_dflt k_extra $s)
theorem ise2 (w mean mg mb) (x : Int) (t1) (news) : ClaimB w mean mg mb 35 news [] True [.int x t1] (fun _ => .bool (decide (x = 0))) := by
  dsimp only [ClaimB, CbClaim, CbLists, CbRet, KB, vwB, PB]
  intros
  rename_i hret
  k_with_none
  k_with "WhPost" => (dsimp only [WhPost])
  refine wpAny_call ?_
  k_dflt cell_enter
  k_steps
  all_goals (refine cb_retB hret ?_ (by k_asm) (by k_asm))
  all_goals first | rfl | simp
theorem ist2 (w mean mg mb) (x : Int) (t1) (news) : ClaimB w mean mg mb 21 news [] True [.int x t1] (fun _ => .bool (decide (x < 256))) := by
  dsimp only [ClaimB, CbClaim, CbLists, CbRet, KB, vwB, PB]
  intros
  rename_i hret
  k_with_none
  k_with "WhPost" => (dsimp only [WhPost])
  refine wpAny_call ?_
  k_dflt cell_enter
  k_steps
  all_goals (refine cb_retB hret ?_ (by k_asm) (by k_asm))
  all_goals first | rfl | simp
theorem isn2 (w mean mg mb) (x : Int) (t1) (news) : ClaimB w mean mg mb 28 news [] True [.int x t1] (fun _ => .bool (decide (256 ≤ x))) := by
  dsimp only [ClaimB, CbClaim, CbLists, CbRet, KB, vwB, PB]
  intros
  rename_i hret
  k_with_none
  k_with "WhPost" => (dsimp only [WhPost])
  refine wpAny_call ?_
  k_dflt cell_enter
  k_steps
  all_goals (refine cb_retB hret ?_ (by k_asm) (by k_asm))
  all_goals first | rfl | simp
theorem cb_bool {prog : Program} {w : World} {K : Frag} {p : Program} {loose : List Str} {mean : ExcName → Option Value} {mg mb : Str → Option Value} {f : Addr} {news : List (Addr × Obj)} {vs : List Value} {b r : Bool}
    (C : CbClaim prog w K p loose mean mg mb f news [] True vs (fun _ => .bool b)) (h : b = r) : CbClaim prog w K p loose mean mg mb f news [] True vs (fun _ => .bool r) := by subst h; exact C
theorem ise2X (w mean mg mb) (x : Int) (t1) (news) (r : Bool) (h : decide (x = 0) = r) : ClaimB w mean mg mb 35 news [] True [.int x t1] (fun _ => .bool r) := cb_bool (ise2 w mean mg mb x t1 news) h
theorem ist2X (w mean mg mb) (x : Int) (t1) (news) (r : Bool) (h : decide (x < 256) = r) : ClaimB w mean mg mb 21 news [] True [.int x t1] (fun _ => .bool r) := cb_bool (ist2 w mean mg mb x t1 news) h
theorem isn2X (w mean mg mb) (x : Int) (t1) (news) (r : Bool) (h : decide (256 ≤ x) = r) : ClaimB w mean mg mb 28 news [] True [.int x t1] (fun _ => .bool r) := cb_bool (isn2 w mean mg mb x t1 news) h
end Mine
end
section
open PySem PySem.W PyProof.Rows
set_option maxRecDepth 100000
set_option linter.unusedVariables false
noncomputable section
namespace Mine
theorem fillB4 : PySem.Challenge.rw_ux0002_02 = PySem.Challenge.rw_ux0002_02 ∧ hdB.heap_39 = hdB.heap_39 := by
  w_top off
  k_fill
  exact ⟨rfl, rfl⟩
local macro_rules | `(tactic| walk_at $s:str) => `(tactic| k_dflt k_extra $s)
local macro_rules | `(tactic| k_all) => `(tactic| assumption)
set_option maxHeartbeats 8000000 in
theorem typ (w mean mg mb) (dp un : Nat) (gd : Option (List Code)) (cn : Str) (cs : Scope) (a : Addr) (ccd : Value) (cl : List (Str × Addr)) (outer : List Env) (A₀ : Around) (base h₀ : Heap) (L : Addr) (m : Str → Option Value) (s : Shared) (Q E : Value → Shared → Prop)
    (rest : List (Addr × Obj)) (start step : Int) (ta tb : Tok) (b : Nat)
    (B : Below A₀ base outer h₀) (F : Fr h₀ L s.heap m) (X : (hdB.heap_39 w.params).In h₀) (N : News h₀ L s.heap rest) (T : Top hdB.view_39 (looseW hdB.view_39 []) mean mg mb h₀) (hk : cs.kind = .function)
    (hb : b ≤ 1) (hs : start = 256 + 4 * step + (b : Int)) (hst : 2 ≤ step) (hst2 : step ≤ 1000000000) (hev : step % 2 = 0)
    (hdp : dp + 10 < recursionLimit) (hun : un + 60 < cLine)
    (hret : ∀ (D : Addr) (os : List (Int × Tok)) (n : Nat) (h' : Heap) (tk' : Nat), os.map (·.1) = syF 5 b → (∀ p ∈ rest, p.1 ≠ D) → Fr h₀ L h' m → News h₀ L h' ((D, listOf (iv os).toArray n) :: rest) → Q (.ref D) { s with heap := h', toks := tk' }) :
    wpAny (model PySem.Challenge.rw_ux0002_02.row.prog w) (ktrTop dp un gd cn cs L a ccd cl outer) (call (.ref 81) [.int start ta, .int step tb]) Q E s := by
  k_with_none
  k_with "WhPost" => (dsimp only [WhPost])
  k_with "LedPost" => (dsimp only [LedPost])
  k_with "RgPost" => (dsimp only [RgPost])
  k_with "CBSIDE" => ((case k1 => k_asm); (case k2 => k_asm); (case k3 => k_asm); (case k4 => k_asm); (case k5 => k_asm); (case kK => first | exact rfl | assumption); (case kp => first | trivial | assumption); (case kd => ktr_room); (case ku => ktr_units); intro t9 h9 tk9 F9 N9; (try dsimp only); (try k_fold))
  k_with "LedPost" => (dsimp only [LedPost])
  k_with "LedEnd" => (k_dflt (refine' pure_end (by k_asm) (by k_asm) ?u5s ?u5l ?u5D ?u5o; (case u5s => kcj_all); (case u5l => assumption); (case u5D => k_mem); (case u5o => (intro z h1; simp only [h1, if_false]))))
  k_with "exec While Compare cons nil" => (
    (rename Fr _ _ _ _ => lF'); (rename News _ _ _ _ => lN')
    (rename (∀ p, p ∈ rest → p.1 < _) => lP'); (rename (_ ∧ AllLt _ rest) => lO')
    (refine' ty_while (step := step) lF' lN' hb hs lP' lO' ?_)
    intro ys os n k u1 u2 h tk hJ hOP hrP hrO F' N'
    clear lF' lN' lP' lO'
    rcases ys with _ | ⟨⟨⟨lv, bb⟩, tx⟩, ys⟩
    focus
      have hN := ty_news0 N'
      clear N'
      try k_fold
    rotate_left
    have hx := hJ.dom ((lv, bb), tx) (.head _)
    have hN := ty_news N'
    have hpl := ty_plen (step := step) hJ
    have hol := ty_olen hJ
    rw [syF_len] at hol
    clear N'
    dsimp only at hx
    obtain ⟨v, hv, hc⟩ := sy_cases hx hst hst2 hev
    rw [hv] at hN
    rcases hc with ⟨rfl, rfl⟩ | ⟨rfl, rfl⟩ | ⟨lq, rfl, hv1, hv2, hv3, hv4, hv5⟩
    all_goals try k_fold)
  k_with "subscriptTail Name UnaryOp" => (rename News _ _ _ _ => lN'; refine' last_led lN' (.tail _ (.head _)) ?_ ?_; (first | (simp; done) | (simp only [iv_len, List.length_cons, List.length_reverse]; omega)))
  k_with "subscriptTail Name UnaryOp" => (rename News _ _ _ _ => lN'; refine' last_led lN' (.tail _ (.tail _ (.head _))) ?_ ?_; (simp; done))
  k_with "call builtin:list.pop" => (rename Fr _ _ _ _ => lF'; rename News _ _ _ _ => lN'; refine' pop_led lF' lN' (Upd.tail hOP (Upd.head hrP)) ?_ (fun h' F' N' => ?_); (simp only [iv_len, List.length_cons, List.length_reverse]; omega); (clear lF' lN'))
  k_with "call builtin:list.extend" => (rename Fr _ _ _ _ => lF'; rename News _ _ _ _ => lN'; rename (_ ∧ _ ∧ AllLt _ rest) => lA'; refine' extend_led lF' lN' (.head _) ?_ (Upd.tail (Nat.ne_of_gt lA'.2.1) (Upd.tail hOP (Upd.head hrP))) ?_ (fun h' F' N' => ?_); (simp); (simp only [iv_len, List.length_cons, List.length_reverse, List.length_nil]; omega); (clear lF' lN'))
  k_with "call builtin:list.append" => (rename Fr _ _ _ _ => lF'; rename News _ _ _ _ => lN'; refine' append_K lF' lN' (Upd.head ?hO) (fun h' F' N' => ?_) ?z; (case hO => exact List.forall_mem_cons.mpr ⟨Ne.symm hOP, hrO⟩); (case z => (simp only [List.size_toArray, iv_len, PySem.sizeLine_eq]; omega)); (rw [List.push_toArray] at N'); (clear lF' lN'))
  k_with "call ref" => (refine' cb_use (ise2X w mean mg mb _ _ _ true (decide_eq_true (by omega))) ?k1 ?k2 ?k3 ?k4 ?k5 ?kK ?kp ?kd ?ku ?_; walk_at "CBSIDE")
  k_with "call ref" => (refine' cb_use (ise2X w mean mg mb _ _ _ false (decide_eq_false (by omega))) ?k1 ?k2 ?k3 ?k4 ?k5 ?kK ?kp ?kd ?ku ?_; walk_at "CBSIDE")
  k_with "call ref" => (refine' cb_use (ist2X w mean mg mb _ _ _ true (decide_eq_true (by omega))) ?k1 ?k2 ?k3 ?k4 ?k5 ?kK ?kp ?kd ?ku ?_; walk_at "CBSIDE")
  k_with "call ref" => (refine' cb_use (ist2X w mean mg mb _ _ _ false (decide_eq_false (by omega))) ?k1 ?k2 ?k3 ?k4 ?k5 ?kK ?kp ?kd ?ku ?_; walk_at "CBSIDE")
  k_with "call ref" => (refine' cb_use (isn2X w mean mg mb _ _ _ true (decide_eq_true (by omega))) ?k1 ?k2 ?k3 ?k4 ?k5 ?kK ?kp ?kd ?ku ?_; walk_at "CBSIDE")
  k_with "call ref" => (refine' cb_use (isn2X w mean mg mb _ _ _ false (decide_eq_false (by omega))) ?k1 ?k2 ?k3 ?k4 ?k5 ?kK ?kp ?kd ?ku ?_; walk_at "CBSIDE")
  k_with "exec For Name List cons nil" => ((rename Fr _ _ _ _ => lF'); (with_unfolding_all refine' For_invVF lF' ?k1 ?k2 ?_; (case k1 => exact rfl); (case k2 => exact rfl)))
  k_with "pyIter ref" => (
    (with_reducible show wpAny _ _ (pyIter (Value.ref _)) (fun it s₂ => LoopAtV _ _ _ _ _ _ _ _ _ it s₂) _ _)
    (rename Fr _ _ _ _ => lF'); (rename News _ _ _ _ => lN')
    (with_unfolding_all refine' iter_pure ?hh ?hl lF' lN' ?_ ?_)
    (case hh => rfl)
    (case hl => exact List.Mem.head _)
    refine' List.forall_mem_cons.mpr ⟨?_, List.forall_mem_cons.mpr ⟨?_, List.forall_mem_nil _⟩⟩
    all_goals intros
    all_goals (clear lF' lN'; try k_fold))
  refine wpAny_call ?_
  k_dflt cell_enter
  k_steps
  all_goals first
    | exact hret _ os _ _ _ (ty_done hJ) hrO (by k_asm) (by refine' cb_drop ?cbN ?cbS; (case cbN => assumption); (case cbS => kcj_all))
    | (k_dflt (refine' ty_end (c' := (ys, os ++ [(255 - (bb : Int), tx)])) (by k_asm) (by k_asm) ?s ?u rfl (ty_leaf hJ tx) ty_wt_leaf ?o; (case s => exact fun p hp => hp); (case u => simp [iv]); (case o => (intro z h1 h2; simp only [h1, h2, if_false]))))
    | (k_dflt (refine' ty_end (c' := (((0, bb), _) :: ((0, 1 - bb), _) :: ys, os)) (by k_asm) (by k_asm) ?s rfl (ty_vs (ty_low hx.2).1 (ty_low hx.2).2) (ty_node hJ) ty_wt_node ?o; (case s => kcj_all); (case o => (intro z h1 h2; simp only [h1, h2, if_false]))))
    | (k_dflt (refine' ty_end (c' := (((lq + 1, bb), _) :: ((lq + 1, 1 - bb), _) :: ys, os)) (by k_asm) (by k_asm) ?s rfl (ty_vs hv3 (Eq.trans (congrArg (fun z => v - step + 1 - z * 2) hv4) hv5)) (ty_node hJ) ty_wt_node ?o; (case s => kcj_all); (case o => (intro z h1 h2; simp only [h1, h2, if_false]))))
    | skip
end Mine
end
end
section
open PySem PySem.W PyProof.Rows
set_option maxRecDepth 100000
set_option linter.unusedVariables false
noncomputable section
namespace Mine
theorem fillB5 : PySem.Challenge.rw_ux0002_02 = PySem.Challenge.rw_ux0002_02 ∧ hdB.heap_39 = hdB.heap_39 := by
  w_top off
  k_fill
  exact ⟨rfl, rfl⟩
local macro_rules | `(tactic| walk_at $s:str) => `(tactic| k_dflt k_extra $s)
local macro_rules | `(tactic| k_all) => `(tactic| assumption)
open Builtin.Str in
theorem ell2X (w mean mg mb) (a b : Str) (t1 t2 news) (r : Bool) (ha : a.length ≤ 4000) (hb : b.length ≤ 4000) (h : ellM a b = r) : ClaimB w mean mg mb 42 news [] True [.str a t1, .str b t2] (fun _ => .bool r) := by
  have C := cb_pre (ell2 w mean mg mb a b t1 t2 news) ⟨ha, hb⟩
  rw [h] at C
  exact C
set_option maxHeartbeats 8000000 in
theorem hal (w mean mg mb) (dp un : Nat) (gd : Option (List Code)) (cn : Str) (cs : Scope) (a : Addr) (ccd : Value) (cl : List (Str × Addr)) (outer : List Env) (A₀ : Around) (base h₀ : Heap) (L : Addr) (m : Str → Option Value) (s : Shared) (Q E : Value → Shared → Prop)
    (rest : List (Addr × Obj)) (most : Nat) (ta : Tok)
    (B : Below A₀ base outer h₀) (F : Fr h₀ L s.heap m) (X : (hdB.heap_39 w.params).In h₀) (N : News h₀ L s.heap rest) (T : Top hdB.view_39 (looseW hdB.view_39 []) mean mg mb h₀) (hk : cs.kind = .function)
    (hmost : most ≤ 23)
    (hdp : dp + 10 < recursionLimit) (hun : un + 60 < cLine)
    (hret : ∀ (D : Addr) (os : List (Int × Tok)) (n : Nat) (h' : Heap) (tk' : Nat), os.map (·.1) = halfL (most + 1) → (∀ p ∈ rest, p.1 ≠ D) → Fr h₀ L h' m → News h₀ L h' ((D, listOf (iv os).toArray n) :: rest) → Q (.ref D) { s with heap := h', toks := tk' }) :
    wpAny (model PySem.Challenge.rw_ux0002_02.row.prog w) (ktrTop dp un gd cn cs L a ccd cl outer) (call (.ref 88) [.int (most : Int) ta]) Q E s := by
  have d3 : (Str.ofString "...").length = 3 := by decide +kernel
  k_with_none
  k_with "WhPost" => (dsimp only [WhPost])
  k_with "LedPost" => (dsimp only [LedPost])
  k_with "RgPost" => (dsimp only [RgPost])
  k_with "CBSIDE" => ((case k1 => k_asm); (case k2 => k_asm); (case k3 => k_asm); (case k4 => k_asm); (case k5 => k_asm); (case kK => first | exact rfl | assumption); (case kp => first | trivial | assumption); (case kd => ktr_room); (case ku => ktr_units); intro t9 h9 tk9 F9 N9; (try dsimp only); (try k_fold))
  k_with "exec For Name Call cons nil" => ((rename Fr _ _ _ _ => lF'); (with_unfolding_all refine' For_invVF lF' ?k1 ?k2 ?_; (case k1 => exact rfl); (case k2 => exact rfl)))
  k_with "call type:range" => ((rename Fr _ _ _ _ => lF'); (rename News _ _ _ _ => lN'); (with_unfolding_all refine range2_rows lF' lN' ?_); intro _ _ _ _ _ _ _ _ _)
  k_with "pyIter ref" => (
    (rename Fr _ _ _ _ => lF'); (rename News _ _ _ _ => lN'); (rename IsRange _ _ _ _ _ _ _ _ => rgX)
    (rename (∀ p, p ∈ rest → p.1 < _) => lP')
    (with_unfolding_all refine' ha_iter (most := most) ?_ rgX ?_ (by omega) lF' lN' ?_ ?_)
    · rfl
    · rfl
    intro i ti l n u2 u3 h tk I oI hi hl hHI hrI hlow F' N'
    rotate_left
    intro l n u1 u2 u3 h tk hl F' N'
    rotate_left
    have hll := half_len hl
    obtain ⟨th, hth⟩ := half_item hl (Nat.lt_succ_self i)
    have ql1 := quo_len (n := ((i / 2 : Nat) : Int) + 1) (by omega)
    have ql2 := quo_len (n := (1 + (i : Int))) (by omega)
    rcases Nat.mod_two_eq_zero_or_one i with hp | hp
    all_goals (clear lF' lN'; try k_fold))
  k_with "subscriptTail Name BinOp" => (rename News _ _ _ _ => lN'; refine' idx_led i lN' (.tail _ (.head _)) ?_ ?_ hth ?_; (omega); (omega))
  k_with "call ref" => (refine' cb_use (ell2X w mean mg mb _ _ _ _ _ true (by omega) (by omega) (half_yes hp)) ?k1 ?k2 ?k3 ?k4 ?k5 ?kK ?kp ?kd ?ku ?_; walk_at "CBSIDE")
  k_with "call ref" => (refine' cb_use (ell2X w mean mg mb _ _ _ _ _ false (by omega) (by omega) (half_no hp)) ?k1 ?k2 ?k3 ?k4 ?k5 ?kK ?kp ?kd ?ku ?_; walk_at "CBSIDE")
  k_with "call builtin:list.append" => (rename Fr _ _ _ _ => lF'; rename News _ _ _ _ => lN'; refine' append_K lF' lN' (Upd.tail (Ne.symm hHI) (Upd.head (fun p hp => Nat.ne_of_lt (lP' p hp)))) (fun h' F' N' => ?_) ?z; (case z => (simp only [List.size_toArray, iv_len, PySem.sizeLine_eq]; omega)); (rw [List.push_toArray, iv_snoc] at N'); (clear lF' lN'))
  k_with "RgEnd" => (refine' ha_end (by k_asm) (by k_asm) ?sHa hHI hrI ?lHa ?oHa; (case sHa => kcj_all); (case oHa => (intro z h1 h2 h3; simp only [h1, h2, h3, if_false])); (case lHa => (rw [halfL_succ, ← hl, List.map_append, List.map_cons, List.map_nil]; congr 2; omega)))
  refine wpAny_call ?_
  k_dflt cell_enter
  k_steps
  all_goals first
    | exact hret _ l _ _ _ hl (fun p hp => Nat.ne_of_lt ((by assumption : ∀ p ∈ rest, p.1 < _) p hp)) (by k_asm) (by k_asm)
    | skip
end Mine
end
end
section
open PySem PySem.W PyProof.Rows
set_option maxRecDepth 100000
set_option linter.unusedVariables false
noncomputable section
namespace Mine
theorem fillB6 : PySem.Challenge.rw_ux0002_02 = PySem.Challenge.rw_ux0002_02 ∧ hdB.heap_39 = hdB.heap_39 := by
  w_top off
  k_fill
  exact ⟨rfl, rfl⟩
local macro_rules | `(tactic| walk_at $s:str) => `(tactic| k_dflt k_extra $s)
local macro_rules | `(tactic| k_all) => `(tactic| assumption)
set_option maxHeartbeats 8000000 in
theorem kin (w mean mg mb) (dp un : Nat) (gd : Option (List Code)) (cn : Str) (cs : Scope) (a : Addr) (ccd : Value) (cl : List (Str × Addr)) (outer : List Env) (A₀ : Around) (base h₀ : Heap) (L : Addr) (m : Str → Option Value) (s : Shared) (Q E : Value → Shared → Prop)
    (rest : List (Addr × Obj)) (H O : Addr) (hl os : List (Int × Tok)) (nH nO most b c : Nat) (ts : Tok)
    (B : Below A₀ base outer h₀) (F : Fr h₀ L s.heap m) (X : (hdB.heap_39 w.params).In h₀) (N : News h₀ L s.heap rest) (T : Top hdB.view_39 (looseW hdB.view_39 []) mean mg mb h₀) (hk : cs.kind = .function)
    (hH : (H, listOf (iv hl).toArray nH) ∈ rest) (hO : (O, listOf (iv os).toArray nO) ∈ rest) (ehl : hl.map (·.1) = halfL (most + 1)) (eos : os.map (·.1) = syF 5 b)
    (hmost : most ≤ 23) (hc : c ≠ 34)
    (hdp : dp + 10 < recursionLimit) (hun : un + 60 < cLine)
    (hret : ∀ (D : Addr) (ks : List (Str × Tok)) (n : Nat) (h' : Heap) (tk' : Nat), ks.map (·.1) = kinL b (most + 1) → (∀ p ∈ rest, p.1 ≠ D) → Fr h₀ L h' m → News h₀ L h' ((D, listOf (strValues ks).toArray n) :: rest) → Q (.ref D) { s with heap := h', toks := tk' }) :
    wpAny (model PySem.Challenge.rw_ux0002_02.row.prog w) (ktrTop dp un gd cn cs L a ccd cl outer) (call (.ref 95) [.ref H, .str ⟨#[c]⟩ ts, .ref O]) Q E s := by
  have hll := half_len ehl
  k_with_none
  k_with "WhPost" => (dsimp only [WhPost])
  k_with "LedPost" => (dsimp only [LedPost])
  k_with "RgPost" => (dsimp only [RgPost])
  k_with "CBSIDE" => ((case k1 => k_asm); (case k2 => k_asm); (case k3 => k_asm); (case k4 => k_asm); (case k5 => k_asm); (case kK => first | exact rfl | assumption); (case kp => first | trivial | assumption); (case kd => ktr_room); (case ku => ktr_units); intro t9 h9 tk9 F9 N9; (try dsimp only); (try k_fold))
  k_with "exec For Name Call cons nil" => ((rename Fr _ _ _ _ => lF'); (with_unfolding_all refine' For_invVF lF' ?k1 ?k2 ?_; (case k1 => exact rfl); (case k2 => exact rfl)))
  k_with "call type:range" => ((rename Fr _ _ _ _ => lF'); (rename News _ _ _ _ => lN'); (with_unfolding_all refine range2_rows lF' lN' ?_); intro _ _ _ _ _ _ _ _ _)
  k_with "pyIter ref" => (
    (rename Fr _ _ _ _ => lF'); (rename News _ _ _ _ => lN'); (rename IsRange _ _ _ _ _ _ _ _ => rgX)
    (rename (∀ p, p ∈ rest → p.1 < _) => lP'); (rename (_ ∧ AllLt _ rest) => lO')
    have hrK9 := fun (p : Addr × Obj) (hp : p ∈ rest) => Nat.ne_of_lt (Nat.lt_trans (lP' p hp) lO'.1)
    (with_unfolding_all refine' kn_iter (b := b) (most := most) ?_ rgX ?_ (by omega) lF' lN' lO'.1 lP' ?_ ?_)
    · rfl
    · omega
    intro i ti ks rs n1 n2 u2 u3 h tk I oI hi hks hrs hKI hRI hrI hRK hrK hrR F' N'
    rotate_left
    intro ks rs n1 n2 u1 u2 u3 h tk hks F' N'
    rotate_left
    have hkl := kin_len hks
    have hrl := rnd_len hrs
    have hSt : KnSt b i ks rs := ⟨hks, hrs⟩
    clear hks hrs
    obtain ⟨hn, hv, r2, rv, r0, th, tr, tw, t0, R, hb9, hth, hrh, hrow, hrow0, hpre, hw⟩ := kn_all (c := c) hSt ehl eos hi hmost hc
    obtain ⟨hb1, hb2, hb3, hb4⟩ := hb9
    clear hSt
    have ql1 := quo_len (n := (1 + (i : Int))) (by omega)
    have ql2 := quo_len (n := hv) (by omega)
    rcases hw with ⟨hE1, hE2, hr9, hKF⟩ | ⟨hE1, hE2, hr9, hKF⟩ | ⟨hE1, hE2, hE3, hfm, hKF⟩ | ⟨hE1, hE2, hE3, hfm, hr9, hKF⟩ | ⟨hE1, hE2, hE3, hfm, hr9, hKF⟩
    all_goals (clear lF' lN'; try k_fold))
  k_with "call builtin:len" => (rename News _ _ _ _ => lN'; refine' len_led (N9 := most + 1) lN' (.tail _ (.tail _ hH)) ?_ (by omega) (fun _ _ => ?_); (rw [iv_len, hll]))
  k_with "truthy bool" => (simp only [hE1])
  k_with "truthy bool" => (simp only [hE2])
  k_with "truthy bool" => (simp only [hE3])
  k_with "subscriptTail Name Name ref int" => (rename News _ _ _ _ => lN'; refine' idx_led (1 + i) lN' (.tail _ (.tail _ (.tail _ hO))) ?_ ?_ hrow ?_; (omega); (omega))
  k_with "subscriptTail Name Name ref int" => (rename News _ _ _ _ => lN'; refine' idx_led (1 + i) lN' (.tail _ (.tail _ (.head _))) ?_ ?_ (snoc_item (by omega)) ?_; (omega); (omega))
  k_with "subscriptTail Name Name ref int" => (rename News _ _ _ _ => lN'; refine' idx_led (1 + i) lN' (.tail _ (.tail _ (.tail _ hH))) ?_ ?_ hth ?_; (omega); (omega))
  k_with "subscriptTail Name Subscript" => (rename News _ _ _ _ => lN'; refine' idx_led hn lN' (.tail _ (.tail _ (.head _))) ?_ ?_ hrh ?_; (omega); (omega))
  k_with "subscriptTail Name Constant" => (rename News _ _ _ _ => lN'; refine' idx_led 0 lN' (.tail _ (.tail _ (.tail _ hO))) ?_ ?_ hrow0 ?_; (rfl); (omega))
  k_with "call ref" => (refine' cb_use (cb_pre (par2 w mean mg mb _ R _ _) hpre) ?k1 ?k2 ?k3 ?k4 ?k5 ?kK ?kp ?kd ?ku ?_; walk_at "CBSIDE")
  k_with "call builtin:list.append" => (rename Fr _ _ _ _ => lF'; rename News _ _ _ _ => lN'; refine' append_K lF' lN' (Upd.tail (Ne.symm hRI) (Upd.tail (Ne.symm hRK) (Upd.head hrR))) (fun h' F' N' => ?_) ?z; (case z => (simp only [List.size_toArray, iv_len, PySem.sizeLine_eq]; omega)); (rw [List.push_toArray, iv_snoc] at N'); (clear lF' lN'))
  k_with "call builtin:list.append" => (rename Fr _ _ _ _ => lF'; rename News _ _ _ _ => lN'; refine' append_K lF' lN' (Upd.tail (Ne.symm hKI) (Upd.head (List.forall_mem_cons.mpr ⟨hRK, hrK⟩))) (fun h' F' N' => ?_) ?zz; (case zz => (simp only [List.size_toArray, sv_len, PySem.sizeLine_eq]; omega)); (rw [List.push_toArray, sv_snoc] at N'); (clear lF' lN'))
  k_with "RgEnd" => ((rename Fr _ _ _ _ => lF'); (rename News _ _ _ _ => lN'); refine' kn_end lF' lN' ?sKn hKI hRI hrI ?kKn ?rKn ?oKn; (case sKn => kcj_all); (case oKn => (intro z h1 h2 h3; simp only [h1, h2, h3, if_false])); (case kKn => exact hKF.ks _); (case rKn => exact hKF.rs _))
  k_with "binaryOp Mod int int" => (refine PyProof.Rows.mod_int (by decide) ?_; (try rw [hfm]))
  refine wpAny_call ?_
  k_dflt cell_enter
  k_steps
  all_goals first
    | exact hret _ ks _ _ _ hks (by assumption) (by k_asm) (by refine' cb_drop ?cbN ?cbS; (case cbN => assumption); (case cbS => kcj_all))
    | exact absurd hr9 (by assumption)
    | exact absurd (by assumption) hr9
    | skip
end Mine
end
end
section
open PySem PySem.W PyProof.Rows
set_option maxRecDepth 100000
set_option linter.unusedVariables false
noncomputable section
namespace Mine
theorem fillB7 : PySem.Challenge.rw_ux0002_02 = PySem.Challenge.rw_ux0002_02 ∧ hdB.heap_39 = hdB.heap_39 := by
  w_top off
  k_fill
  exact ⟨rfl, rfl⟩
local macro_rules | `(tactic| walk_at $s:str) => `(tactic| k_dflt k_extra $s)
local macro_rules | `(tactic| k_all) => `(tactic| assumption)
set_option maxHeartbeats 8000000 in
theorem lvl (w mean mg mb) (dp un : Nat) (gd : Option (List Code)) (cn : Str) (cs : Scope) (a : Addr) (ccd : Value) (cl : List (Str × Addr)) (outer : List Env) (A₀ : Around) (base h₀ : Heap) (L : Addr) (m : Str → Option Value) (s : Shared) (Q E : Value → Shared → Prop)
    (rest : List (Addr × Obj)) (M K : Addr) (ks : List (Str × Tok)) (nM nK most b x y z : Nat) (tx ty tz : Tok)
    (B : Below A₀ base outer h₀) (F : Fr h₀ L s.heap m) (X : (hdB.heap_39 w.params).In h₀) (N : News h₀ L s.heap rest) (T : Top hdB.view_39 (looseW hdB.view_39 []) mean mg mb h₀) (hk : cs.kind = .function)
    (hM : (M, listOf (iv [((x : Int), tx), ((y : Int), ty), ((z : Int), tz)]).toArray nM) ∈ rest) (hK : (K, listOf (strValues ks).toArray nK) ∈ rest) (eks : ks.map (·.1) = kinL b (most + 1))
    (hx : x ≤ most) (hy : y ≤ most) (hz : z ≤ most) (hmost : most ≤ 23)
    (hdp : dp + 10 < recursionLimit) (hun : un + 60 < cLine)
    (hret : ∀ (h' : Heap) (tk' : Nat), Fr h₀ L h' m → News h₀ L h' rest → Q (.bool (lev b x y z)) { s with heap := h', toks := tk' }) :
    wpAny (model PySem.Challenge.rw_ux0002_02.row.prog w) (ktrTop dp un gd cn cs L a ccd cl outer) (call (.ref 100) [.ref M, .ref K]) Q E s := by
  k_with_none
  k_with "WhPost" => (dsimp only [WhPost])
  k_with "LedPost" => (dsimp only [LedPost])
  k_with "RgPost" => (dsimp only [RgPost])
  k_with "CBSIDE" => ((case k1 => k_asm); (case k2 => k_asm); (case k3 => k_asm); (case k4 => k_asm); (case k5 => k_asm); (case kK => first | exact rfl | assumption); (case kp => first | trivial | assumption); (case kd => ktr_room); (case ku => ktr_units); intro t9 h9 tk9 F9 N9; (try dsimp only); (try k_fold))
  k_with "ENTERC" => (refine' code_defC ?u4k1 ?u4k2 ?u4k3 ?u4k4 ?u4k5 ?u4kA ?u4kF ?u4kK ?u4k6 ?u4k7 ?u4k8 ?u4k9 ?u4kB ?u4kD ?_ ?u4c2 ?u4c3 ?u4c4; (case u4kA => exact rfl); (case u4kF => exact rfl); (case u4kK => assumption); (case u4k1 => k_asm); (case u4k2 => k_asm); (case u4k3 => k_asm); (case u4k4 => k_asm); (case u4k5 => k_asm); (case u4k6 => k_is); (case u4k7 => k_is); (case u4k8 => ktr_room); (case u4k9 => exact BindsTo.of_eq rfl); (case u4kB => exact rfl); (case u4kD => decide +kernel); (case u4c2 => exact rfl); (case u4c3 => exact rfl); (case u4c4 => exact rfl); k_whole; intro g' L' h' tk' cells' FG' F' N' Y' B' X' T' l1; (try k_lt l1); k_cells Y'; (try simp only [List.cons_append, List.nil_append] at N'); (try dsimp only); (try k_lift B'); (try k_fold))
  k_with "CompSrc" => (refine' LCg.CompSrc.ledger (by rfl) (by k_asm) (by k_asm) (by first | exact hM | exact .tail _ hM | exact .tail _ (.tail _ hM)) (by simp only [List.size_toArray, iv_len, PySem.sizeLine_eq, List.length_cons, List.length_nil]; omega) ?_; intro g'; (refine' kct_list (fun k : Int => kS (kN b k.toNat)) (ints_of_iv _) (fun k' t' I' oI' C' oC' D' m' ys' h' tk' E' hk' hC' hx' F' N' off' ne' hMark' => ?_) ?_); (all_goals (try (simp only [LCg.Off3, and_true] at off'))); (all_goals try k_fold))
  k_with "subscriptTail Name Name" => (rename News _ _ _ _ => lN'; (have hk8 := lv_mem hk' hx hy hz); obtain ⟨tt, hkk⟩ := kin_item (k := k'.toNat) eks (by omega); refine' idx_led k'.toNat lN' (by first | exact hK | exact .tail _ hK | exact .tail _ (.tail _ hK) | exact .tail _ (.tail _ (.tail _ hK)) | exact .tail _ (.tail _ (.tail _ (.tail _ hK)))) ?_ ?_ hkk ?_; (omega); (omega))
  k_with "KCtEl" => exact kct_el rfl rfl rfl
  k_with "call builtin:list.count" => ((with_reducible rename CarriedAll _ (List.map _ _) => ktC); (refine' count_led1 (b := b) (by first | assumption | is_list | exact News.isList (by k_asm) (by k_mem)) ktC (fun c1 t1 tk1 hc1 hc2 hc3 => ?_)))
  k_with "call builtin:list.count" => ((with_reducible rename CarriedAll _ (List.map _ _) => ktC); (refine' count_led2 (b := b) (by first | assumption | is_list | exact News.isList (by k_asm) (by k_mem)) ktC (fun c2 t2 tk2 hd1 hd2 hd3 => ?_)))
  refine wpAny_call ?_
  k_dflt (walk_at "ENTERC")
  k_steps
  focus (rename News _ _ _ _ => lN'; exact LCg.CompEnd.intro (by k_asm) lN' _ (fun p hp => hp) off' (.inr ⟨_, .tail _ hM, rfl, _, rfl⟩) (kct_el rfl rfl rfl))
  focus (refine cb_retB (fun _ => hret) (lv_end1 (by assumption) hc3 hd3) (by k_asm) (by refine' cb_drop ?cbN ?cbS; (case cbN => assumption); (case cbS => kcj_all)))
  focus (refine cb_retB (fun _ => hret) (lv_end2 (by assumption) hc3) (by k_asm) (by refine' cb_drop ?cbN ?cbS; (case cbN => assumption); (case cbS => kcj_all)))
end Mine
end
end
section
open PySem PySem.W PyProof.Rows
set_option maxRecDepth 100000
set_option linter.unusedVariables false
noncomputable section
namespace Mine
theorem fillB8 : PySem.Challenge.rw_ux0002_02 = PySem.Challenge.rw_ux0002_02 ∧ hdB.heap_39 = hdB.heap_39 := by
  w_top off
  k_fill
  exact ⟨rfl, rfl⟩
local macro_rules | `(tactic| walk_at $s:str) => `(tactic| k_dflt k_extra $s)
theorem typX (w mean mg mb) (dp un : Nat) (gd : Option (List Code)) (cn : Str) (cs : Scope) (a : Addr) (ccd : Value) (cl : List (Str × Addr)) (outer : List Env) (A₀ : Around) (base h₀ : Heap) (L : Addr) (m : Str → Option Value) (s : Shared) (Q E : Value → Shared → Prop)
    (rest : List (Addr × Obj)) (S : Int) (ta tb : Tok)
    (B : Below A₀ base outer h₀) (F : Fr h₀ L s.heap m) (X : (hdB.heap_39 w.params).In h₀) (N : News h₀ L s.heap rest) (T : Top hdB.view_39 (looseW hdB.view_39 []) mean mg mb h₀) (hk : cs.kind = .function)
    (hS0 : 0 ≤ S) (hS1 : S ≤ 63000064)
    (hdp : dp + 10 < recursionLimit) (hun : un + 60 < cLine)
    (hret : ∀ (D : Addr) (os : List (Int × Tok)) (n : Nat) (h' : Heap) (tk' b : Nat), b ≤ 1 → os.length = 32 → os.map (·.1) = syF 5 b → (∀ p ∈ rest, p.1 ≠ D) → Fr h₀ L h' m → News h₀ L h' ((D, listOf (iv os).toArray n) :: rest) → Q (.ref D) { s with heap := h', toks := tk' }) :
    wpAny (model PySem.Challenge.rw_ux0002_02.row.prog w) (ktrTop dp un gd cn cs L a ccd cl outer) (call (.ref 81) [.int (256 + 4 * (2 + 2 * S) + S.fmod 2) ta, .int (2 + 2 * S) tb]) Q E s := by
  have h2 := fmod_range S (b := 2) (by decide)
  have hb : (S.fmod 2).toNat ≤ 1 := by omega
  refine typ w mean mg mb dp un gd cn cs a ccd cl outer A₀ base h₀ L m s Q E rest _ _ ta tb (S.fmod 2).toNat B F X N T hk hb (by omega) (by omega) (by omega) (by omega) hdp hun (fun D os n h' tk' e hne F' N' => hret D os n h' tk' _ hb ?_ e hne F' N')
  have := congrArg List.length e
  rw [List.length_map, syF_len] at this
  exact this
theorem lvlX (w mean mg mb) (dp un : Nat) (gd : Option (List Code)) (cn : Str) (cs : Scope) (a : Addr) (ccd : Value) (cl : List (Str × Addr)) (outer : List Env) (A₀ : Around) (base h₀ : Heap) (L : Addr) (m : Str → Option Value) (s : Shared) (Q E : Value → Shared → Prop)
    (rest : List (Addr × Obj)) (M K : Addr) (ks : List (Str × Tok)) (nM nK most b x y z : Nat) (tx ty tz : Tok) (r : Bool)
    (B : Below A₀ base outer h₀) (F : Fr h₀ L s.heap m) (X : (hdB.heap_39 w.params).In h₀) (N : News h₀ L s.heap rest) (T : Top hdB.view_39 (looseW hdB.view_39 []) mean mg mb h₀) (hk : cs.kind = .function)
    (hM : (M, listOf (iv (h3 x y z tx ty tz)).toArray nM) ∈ rest) (hK : (K, listOf (strValues ks).toArray nK) ∈ rest) (eks : ks.map (·.1) = kinL b (most + 1))
    (hx : x ≤ most) (hy : y ≤ most) (hz : z ≤ most) (hmost : most ≤ 23) (hr : lev b x y z = r)
    (hdp : dp + 10 < recursionLimit) (hun : un + 60 < cLine)
    (hret : ∀ (h' : Heap) (tk' : Nat), Fr h₀ L h' m → News h₀ L h' rest → Q (.bool r) { s with heap := h', toks := tk' }) :
    wpAny (model PySem.Challenge.rw_ux0002_02.row.prog w) (ktrTop dp un gd cn cs L a ccd cl outer) (call (.ref 100) [.ref M, .ref K]) Q E s := by
  subst hr
  exact lvl w mean mg mb dp un gd cn cs a ccd cl outer A₀ base h₀ L m s Q E rest M K ks nM nK most b x y z tx ty tz B F X N T hk hM hK eks hx hy hz hmost hdp hun hret
set_option maxHeartbeats 16000000 in
theorem lawB : PySem.Challenge.rw_ux0002_02.Holds := hdB (by
  k_with_none
  k_with "LedPost" => (dsimp only [LedPost])
  k_with "RgPost" => (dsimp only [RgPost])
  k_with "pyIter ref" => (
    (rename PairSrcL _ _ _ _ _ _ _ _ _ _ _ _ => hSrc)
    (refine' hSrc.at _ rfl _ _ _ _ (CkJ ?D 8 64 ?rest ?m0) ?start ?turn ?done)
    (case start => exact ck_start8)
    rintro i x0 tp vx m₁ news₁ s₂ own ⟨hh, tkk, rfl⟩ hx ⟨tx, rfl⟩ ⟨cs, nn, u1, u2, hcl, hcp, hcs, rfl, rfl⟩ hadr hown F9 N9
    have N8 := ck_news N9
    have hDn := ck_ne (by assumption) hown
    have hm0 := fmod_range (i : Int) (b := 8) (by decide)
    have hx0 := fmod_range x0 (b := 1000000) (by decide)
    clear N9 hx hSrc
    rotate_left
    rintro h9 tk9 m9 news9 F9 N9 _ ⟨cs, nn, u1, u2, hcl, hcp, hcs, rfl, rfl⟩
    obtain ⟨⟨c0, t0⟩, ⟨c1, t1⟩, ⟨c2, t2⟩, ⟨c3, t3⟩, ⟨c4, t4⟩, ⟨c5, t5⟩, ⟨c6, t6⟩, ⟨c7, t7⟩, rfl⟩ := eight_of hcl
    have hc0 : 0 ≤ c0 := hcp _ (.head _)
    have hc1 : 0 ≤ c1 := hcp _ (.tail _ (.head _))
    have hc2 : 0 ≤ c2 := hcp _ (.tail _ (.tail _ (.head _)))
    have hc3 : 0 ≤ c3 := hcp _ (.tail _ (.tail _ (.tail _ (.head _))))
    have hc4 : 0 ≤ c4 := hcp _ (.tail _ (.tail _ (.tail _ (.tail _ (.head _)))))
    have hc5 : 0 ≤ c5 := hcp _ (.tail _ (.tail _ (.tail _ (.tail _ (.tail _ (.head _))))))
    have hc6 : 0 ≤ c6 := hcp _ (.tail _ (.tail _ (.tail _ (.tail _ (.tail _ (.tail _ (.head _)))))))
    have hc7 : 0 ≤ c7 := hcp _ (.tail _ (.tail _ (.tail _ (.tail _ (.tail _ (.tail _ (.tail _ (.head _))))))))
    simp only [sumI, List.map_cons, List.map_nil, List.sum_cons, List.sum_nil] at hcs
    have hcsum : c0 + (c1 + (c2 + (c3 + (c4 + (c5 + (c6 + (c7 + 0))))))) ≤ 63000064 := by omega
    dsimp only [iv, List.map] at N9
    clear hSrc hcp hcl hcs
    all_goals try k_fold)
  k_with "getItem ref int" => (refine' cell_getI (by k_asm) (.head _) hm0.1 (by omega) (by omega) hcp (fun c9 t9 hc9 hg9 => ?_))
  k_with "setItem ref int" => (refine' ck_set (by k_asm) (by k_asm) hDn hm0.1 (by omega) (by omega) hcp hg9 (by omega) (fun h9 cs9 hl9 hp9 hs9 F9 N9 => ?_))
  k_with "LoopStep3" => (refine' ck_end (by k_asm) (by k_asm) ck_sub (by omega) (by assumption) hs9 (by assumption) hx0.2 ?_ ?_; (rfl); (intro z h1 h2; simp only [h1, h2, if_false]))
  k_with "call ref" => ((with_reducible show wpAny _ _ (call (Value.ref 81) _) _ _ _); (refine' typX _ _ _ _ _ _ _ _ _ _ _ _ _ _ _ _ _ _ _ _ _ _ _ _ _ ?tyB ?tyF ?tyX ?tyN ?tyT ?tyK (by omega) (by omega) ?tyd ?tyu ?_); (case tyB => k_asm); (case tyF => k_asm); (case tyX => k_asm); (case tyN => k_asm); (case tyT => k_asm); (case tyK => first | exact rfl | assumption); (case tyd => ktr_room); (case tyu => ktr_units); (intro dR os nR h9 tk9 b hb hosl heos hneR F9 N9); (replace hneR := allNe_of hneR); (simp only [AllNe, and_true] at hneR); (try dsimp only); (try k_fold))
  k_with "call builtin:len" => (rename News _ _ _ _ => lN'; refine' len_led (N9 := 32) lN' (.head _) ?_ (by omega) (fun _ _ => ?_); (rw [iv_len]; exact hosl))
  k_with "call builtin:max" => ((rename IntsAre _ (List.map _ [c0, c1, c2]) => hI8); (obtain ⟨x, y, z, tx, ty, tz, hx, hy, hz, rfl⟩ := h3_pack hI8 (heap_range _) (heap_range _) (heap_range _)); (rename Fr _ _ _ _ => lF'); (rename News _ _ _ _ => lN'); (refine' max3_led (by rfl) lF' lN' (.tail _ (.head _)) hx hy hz (fun most tM h9 tk9 hxm hym hzm hmost F9 N9 => ?_)); (clear lF' lN' hI8); (try k_fold))
  k_with "call ref" => ((with_reducible show wpAny _ _ (call (Value.ref 88) _) _ _ _); (refine' hal _ _ _ _ _ _ _ _ _ _ _ _ _ _ _ _ _ _ _ _ _ _ _ _ ?haB ?haF ?haX ?haN ?haT ?haK hmost ?had ?hau ?_); (case haB => k_asm); (case haF => k_asm); (case haX => k_asm); (case haN => k_asm); (case haT => k_asm); (case haK => first | exact rfl | assumption); (case had => ktr_room); (case hau => ktr_units); (intro dH hl nH h9 tk9 ehl hneH F9 N9); (replace hneH := allNe_of hneH); (simp only [AllNe, and_true] at hneH); (try dsimp only); (try k_fold))
  k_with "call ref" => ((with_reducible show wpAny _ _ (call (Value.ref 95) _) _ _ _); (have hs5 := fmod_range (c0 + (c1 + (c2 + (c3 + (c4 + (c5 + (c6 + (c7 + 0)))))))) (b := 50000) (by decide)); (refine' kin _ _ _ _ _ _ _ _ _ _ _ _ _ _ _ _ _ _ _ _ _ _ dH dR hl os _ _ most b _ _ ?kiB ?kiF ?kiX ?kiN ?kiT ?kiK ?kiH ?kiO ehl heos hmost (by omega) ?kid ?kiu ?_); (case kiB => k_asm); (case kiF => k_asm); (case kiX => k_asm); (case kiN => k_asm); (case kiT => k_asm); (case kiK => first | exact rfl | assumption); (case kiH => k_mem); (case kiO => k_mem); (case kid => ktr_room); (case kiu => ktr_units); (intro dK ks nK h9 tk9 eks hneK F9 N9); (replace hneK := allNe_of hneK); (simp only [AllNe, and_true] at hneK); (try dsimp only); (try k_fold))
  k_with "compareOp Eq ref ref" => ((rename News _ _ _ _ => lN'); (refine' eq_ks_f (ks := ks) lN' ?ekG ?ekO ?ekK ?ekU ?_); (case ekG => k_mem); (case ekO => k_mem); (case ekK => (intro e; rw [e, kinL_succ] at eks; simp at eks)); (case ekU => ktr_units))
  k_with "IntBack" => (refine' IntBack.intro (by k_asm) (by k_asm) ?_ ?_; (kcj_all); (have hs9 := fmod_range (c0 + (c1 + (c2 + (c3 + (c4 + (c5 + (c6 + (c7 + 0)))))))) (b := 50000) (by decide); omega))
  k_with "exec For Name Subscript cons nil" => ((rename Fr _ _ _ _ => lF'); (with_unfolding_all refine' For_invVF lF' ?k1 ?k2 ?_; (case k1 => exact rfl); (case k2 => exact rfl)))
  k_with "pyIter ref" => (
    (rename News _ _ _ _ => lN')
    (have N8 := news_game lN'); (clear lN')
    (rename Fr _ _ _ _ => lF')
    (with_unfolding_all refine' gp_iter (most := most) (l := [(c3, t3), (c4, t4), (c5, t5), (c6, t6), (c7, t7)]) ?_ (List.Mem.head _) lF' N8 hxm hym hzm ?_ ?_ ?_)
    · rfl
    · rfl
    clear lF' N8 hx hy hz hxm hym hzm
    intro i c tc Hp x y z tx ty tz nH u1 u2 u3 u4 h tk I oI hx hy hz hHI hfI F' N'
    have hfIk := hfI
    k_lt hfI
    replace hHI := ltN_ne hHI
    rotate_left
    intro Hp x y z tx ty tz nH v u1 u2 u3 u4 h tk hx hy hz F' N'
    all_goals (try k_fold))
  k_with "exec For Name Call cons nil" => ((rename Fr _ _ _ _ => lF'); (with_unfolding_all refine' For_invVF lF' ?k1 ?k2 ?_; (case k1 => exact rfl); (case k2 => exact rfl)))
  k_with "call type:range" => ((rename Fr _ _ _ _ => lF'); (rename News _ _ _ _ => lN'); (with_unfolding_all refine range1_rows lF' lN' ?_); intro _ _ _ _ _ _ _ _ _)
  k_with "pyIter ref" => (
    (rename IsRange _ _ _ _ _ _ _ _ => rgX)
    (rename Fr _ _ _ _ => lF'); (rename News _ _ _ _ => lN')
    (with_unfolding_all refine' gk_iter (hs := [(x : Int), (y : Int), (z : Int)]) (rest := [(I, oI), (Hp, _), _, _, _, _]) ?_ rgX lF' lN' ?_ ?_)
    · rfl
    clear lF' lN'
    intro k tK mv n u2 h tk I2 oI2 hk hmv hMlt hMI hrI hmvI hlow F' N'
    have hlowk := hlow
    k_lt hlow
    simp only [List.cons_append, List.nil_append] at N'
    obtain ⟨v, tv, hvm, hvi, hvg⟩ := h3_item (tx := tx) (ty := ty) (tz := tz) hx hy hz hk
    obtain ⟨thv, hhv⟩ := half_item ehl (Nat.lt_succ_of_le hvm)
    rotate_left
    intro mv n u1 u2 h tk hmv hMlt F' N'
    simp only [List.cons_append, List.nil_append] at N'
    have hmvl := mvs_len [(x : Int), (y : Int), (z : Int)]
    rw [← hmv, List.length_map] at hmvl
    all_goals (try k_fold))
  k_with "subscriptTail Name Name" => (rename News _ _ _ _ => lN'; refine' idx_led k lN' ?ixm ?ixk ?ixj hvi ?_; (case ixm => k_mem); (case ixk => omega); (case ixj => omega))
  k_with "subscriptTail Name Subscript" => (rename News _ _ _ _ => lN'; refine' idx_led v lN' ?ixm ?ixk ?ixj hhv ?_; (case ixm => k_mem); (case ixk => rfl); (case ixj => omega))
  k_with "exec For Name List cons nil" => ((rename Fr _ _ _ _ => lF'); (with_unfolding_all refine' For_invVF lF' ?k1 ?k2 ?_; (case k1 => exact rfl); (case k2 => exact rfl)))
  k_with "pyIter ref" => (
    (have hvz := hvg)
    (rename Fr _ _ _ _ => lF'); (rename News _ _ _ _ => lN')
    (with_unfolding_all refine' gl_iter (kk := k) (hs := [(x : Int), (y : Int), (z : Int)]) (rest := [(I, oI), (Hp, _), _, _, _, _]) (O := (I2, oI2)) (mv0 := mv) (base := mvs [(x : Int), (y : Int), (z : Int)] k) ?_ lF' lN' hmv (fun a ha => ⟨hMlt a ha, hmvI a ha⟩) ?_ ?_)
    · rfl
    clear lF' lN'
    intro i2 wv tw mv2 n2 h tk I3 oI3 hvl hstep hww hM2 hDI3 hOI3 hMI3 hrI3 hmvI3 hlow3 F' N'
    have hlow3k := hlow3
    k_lt hlow3
    simp only [List.cons_append, List.nil_append] at N'
    rotate_left
    intro mv2 n2 u h tk hvl hM2 F' N'
    simp only [List.cons_append, List.nil_append] at N'
    all_goals (try k_fold))
  k_with "subscriptTail Name Slice ref ref" => ((rename Fr _ _ _ _ => lF'); (rename News _ _ _ _ => lN'); (refine' take_led (l := h3 x y z tx ty tz) lF' lN' ?tkM ?tkK ?tkZ ?_ ?tkS ?tkT; (case tkM => k_mem); (case tkK => omega); (case tkZ => exact (by decide : 3 ≤ 1000)); (case tkS => with_unfolding_all rfl); (case tkT => kmk_pure)); intro D' h' F' N' l1; (k_lt l1); (clear lF' lN'); (rw [zero_nat] at N'))
  k_with "subscriptTail Name Slice ref ref" => ((rename Fr _ _ _ _ => lF'); (rename News _ _ _ _ => lN'); (refine' drop_led (l := h3 x y z tx ty tz) lF' lN' ?tkM ?tkK ?tkZ ?_ ?tkS ?tkT; (case tkM => k_mem); (case tkK => omega); (case tkZ => exact (by decide : 3 ≤ 1000)); (case tkS => with_unfolding_all rfl); (case tkT => kmk_pure)); intro D' h' F' N' l1; (k_lt l1); (clear lF' lN'); (rw [zero_nat1] at N'))
  k_with "binaryOp Add ref ref" => ((rename Fr _ _ _ _ => lF'); (rename News _ _ _ _ => lN'); (refine' add_led (l1 := List.take k (h3 x y z tx ty tz)) (l2 := [(wv, tw)]) lF' lN' ?ada ?adb ?adz (fun D' h' F' N' l1 => ?_)); (case ada => k_mem); (case adb => k_mem); (case adz => simp only [List.length_take, h3_len, List.length_cons, List.length_nil]; omega); (k_lt l1); (clear lF' lN'))
  k_with "binaryOp Add ref ref" => ((rename Fr _ _ _ _ => lF'); (rename News _ _ _ _ => lN'); (refine' add_led (l1 := List.take k (h3 x y z tx ty tz) ++ [(wv, tw)]) (l2 := List.drop (k + 1) (h3 x y z tx ty tz)) lF' lN' ?ada ?adb ?adz (fun D' h' F' N' l1 => ?_)); (case ada => k_mem); (case adb => k_mem); (case adz => simp only [List.length_append, List.length_take, List.length_drop, h3_len, List.length_cons, List.length_nil]; omega); (k_lt l1); (clear lF' lN'))
  k_with "call builtin:list.append" => ((rename Fr _ _ _ _ => lF'); (rename News _ _ _ _ => lN'); (refine' mv_append (I3 := (I3, oI3)) (D2 := (_, _)) (O := (I2, oI2)) (rest := [(I, oI), (Hp, _), _, _, _, _]) (mv := mv2) (n := n2) (l := List.take k (h3 x y z tx ty tz) ++ [(wv, tw)] ++ List.drop (k + 1) (h3 x y z tx ty tz)) lF' lN' (List.Mem.head _) (fun p hp => .tail _ (.tail _ (.tail _ (.tail _ (.tail _ hp))))) hMI3 ?ap2 hMI ?ap4 ?ap5 (fun a ha => (hM2 a ha).1) (gl_len hvl hk rfl) (fun h' F' N' => ?_)); (case ap2 => omega); (case ap5 => omega); (case ap4 => (simp only [AllLt, and_true]; omega)); (clear lF' lN'))
  k_with "LedEnd" => ((rename News _ _ _ _ => lN'); (refine' gl_fin (tx := tx) (ty := ty) (tz := tz) (tv := tw) (by k_asm) lN' hDI3 hOI3 hMI3 hrI3 hmvI3 hvl hstep rfl hM2 ?ge1 ?ge2 ?ge3 ?ge4); (case ge1 => omega); (case ge2 => omega); (case ge3 => omega); (case ge4 => (intro z h1; simp only [h1, if_false])))
  k_with "RgEnd" => ((rename News _ _ _ _ => lN'); (refine' gk_end (mv := mv) (by k_asm) lN' (fun p hp => hp) hMI hrI hmvI (gk_zero hmv hvg (by omega)) hMlt ?ke4); (case ke4 => (intro z h1 h2; simp only [h1, h2, if_false])))
  k_with "RgEnd" => ((rename News _ _ _ _ => lN'); (refine' gk_end (mv := mv2) (by k_asm) lN' (fun p hp => List.Mem.tail _ hp) hMI hrI (fun a ha => (hM2 a ha).2) (gk_pos hvl hvg (by omega) rfl rfl) (fun a ha => (hM2 a ha).1) ?ke4); (case ke4 => (intro z h1 h2; simp only [h1, h2, if_false])))
  k_with "CompSrcT" => (
    (rename Fr _ _ _ _ => lF'); (rename News _ _ _ _ => lN')
    (refine' LCt.CompSrcT.ledger (by rfl) lF' lN' (List.Mem.head _) ?szz ?_)
    (case szz => (simp only [List.size_toArray, List.length_map, PySem.sizeLine_eq]; omega))
    intro g'
    (refine' gf_list (mv := mv) (b := b) (fun a9 gd9 I' oI' C' oC' D' m' h' tk' E' ha9 hC' hx9 F' N' off' ne' => ?_) ?_)
    obtain ⟨x', y', z', tx', ty', tz', hx', hy', hz', ea9⟩ := mvs_h3 hx hy hz hmv ha9
    have hoba := mv_obj ha9 ea9
    have hla := mv_lev (b := b) ea9
    clear lF' lN'
    cases hlev : lev b x' y' z'
    rotate_left; rotate_left
    have hlg := lev_good hb hx hy hz hmost hmv rfl
    generalize hgd : List.filter (fun a => levI b (vl a)) mv = gd at hlg ⊢
    rcases gd with _ | ⟨g0, gs⟩
    focus
      have hl9 : lev b x y z = true := hlg
      clear hlg
      rcases mv with _ | ⟨m0, ms⟩
      rotate_left
      have hgl9 : ((List.length (m0 :: ms) : Nat) : Int) ≠ 0 := by simp only [List.length_cons]; omega
      have hsubg : ∀ a ∈ (m0 :: ms), a ∈ (m0 :: ms) := fun a ha => ha
    rotate_left
    rotate_left
    have hl9 : lev b x y z = false := hlg
    have hgl9 : ((List.length (g0 :: gs) : Nat) : Int) ≠ 0 := by simp only [List.length_cons]; omega
    have hglen : (g0 :: gs).length ≤ mv.length := by rw [← hgd]; exact List.length_filter_le ..
    have hsubg : ∀ a ∈ (g0 :: gs), a ∈ mv := fun a ha => (List.mem_filter.mp (hgd ▸ ha)).1
    rcases mv with _ | ⟨m0, ms⟩
    focus (exfalso; simp at hglen)
    clear hlg
    all_goals (try k_fold))
  k_with "call ref" => ((have hzz := hl9); (refine' lvlX _ _ _ _ _ _ _ _ _ _ _ _ _ _ _ _ _ _ _ _ _ _ _ dK ks _ _ most b x y z _ _ _ _ ?lvB ?lvF ?lvX ?lvN ?lvT ?lvK ?lvM ?lvO eks hx hy hz hmost hl9 ?lvd ?lvu ?_); (case lvB => k_asm); (case lvF => k_asm); (case lvX => k_asm); (case lvN => k_asm); (case lvT => k_asm); (case lvK => first | exact rfl | assumption); (case lvM => k_mem); (case lvO => k_mem); (case lvd => ktr_room); (case lvu => ktr_units); (intro h9 tk9 F9 N9); (try dsimp only); (try k_fold))
  k_with "call ref" => ((have hzz := hla); (refine' lvlX _ _ _ _ _ _ _ _ _ _ _ _ _ _ _ _ _ _ _ _ _ _ _ dK ks _ _ most b x' y' z' _ _ _ _ ?lvB ?lvF ?lvX ?lvN ?lvT ?lvK ?lvM ?lvO eks hx' hy' hz' hmost hlev ?lvd ?lvu ?_); (case lvB => k_asm); (case lvF => k_asm); (case lvX => k_asm); (case lvN => k_asm); (case lvT => k_asm); (case lvK => first | exact rfl | assumption); (case lvM => (repeat (first | exact hoba | refine List.Mem.tail _ ?_))); (case lvO => k_mem); (case lvd => ktr_room); (case lvu => ktr_units); (intro h9 tk9 F9 N9); (try dsimp only); (try k_fold))
  k_with "CompEnd" => ((rename News _ _ _ _ => lN'); first | exact LCg.CompEnd.intro (by k_asm) lN' _ (fun p hp => hp) off' (Or.inr ⟨_, List.Mem.head _, rfl, _, rfl⟩) (gf_el (hla.trans hlev)) | exact LCg.CompEnd.intro (by k_asm) lN' _ (fun p hp => hp) off' (Or.inr ⟨_, List.Mem.head _, rfl, _, rfl⟩) (gf_no (hla.trans hlev)))
  k_with "compareOp Eq ref ref" => ((rename News _ _ _ _ => lN'); (refine' eq_nil_t lN' ?ekG ?ekO ?ekU ?_); (case ekG => k_mem); (case ekO => k_mem); (case ekU => ktr_units))
  k_with "compareOp Eq ref ref" => ((rename News _ _ _ _ => lN'); (refine' eq_nil_f (v := rf m0) (vs := List.map rf ms) lN' ?ekG ?ekO ?ekU ?_); (case ekG => k_mem); (case ekO => k_mem); (case ekU => ktr_units))
  k_with "compareOp Eq ref ref" => ((rename News _ _ _ _ => lN'); (refine' eq_nil_f (v := rf g0) (vs := List.map rf gs) lN' ?ekG ?ekO ?ekU ?_); (case ekG => k_mem); (case ekO => k_mem); (case ekU => ktr_units))
  k_with "compareOp NotEq ref ref" => ((rename News _ _ _ _ => lN'); (refine' ne_nil_f lN' ?ekG ?ekO ?ekU ?_); (case ekG => k_mem); (case ekO => k_mem); (case ekU => ktr_units))
  k_with "compareOp NotEq ref ref" => ((rename News _ _ _ _ => lN'); (refine' ne_nil_t (v := rf g0) (vs := List.map rf gs) lN' ?ekG ?ekO ?ekU ?_); (case ekG => k_mem); (case ekO => k_mem); (case ekU => ktr_units))
  k_with "call builtin:len" => (rename News _ _ _ _ => lN'; refine' len_led (vs := List.map rf (m0 :: ms)) (N9 := (m0 :: ms).length) lN' ?lnm ?lnv ?lnz (fun _ _ => ?_); (case lnm => k_mem); (case lnv => rw [List.length_map]); (case lnz => omega))
  k_with "call builtin:len" => (rename News _ _ _ _ => lN'; refine' len_led (vs := List.map rf (g0 :: gs)) (N9 := (g0 :: gs).length) lN' ?lnm ?lnv ?lnz (fun _ _ => ?_); (case lnm => k_mem); (case lnv => rw [List.length_map]); (case lnz => omega))
  k_with "binaryOp Mod int int" => (refine PyProof.Rows.mod_int hgl9 ?_)
  k_with "subscriptTail Name BinOp" => (rename News _ _ _ _ => lN'; refine' rf_led (gd := m0 :: ms) (N9 := (m0 :: ms).length) lN' ?rfm rfl (Nat.succ_pos _) ?rfz (fun a9 ha9 => ?_); (case rfm => k_mem); (case rfz => omega); (have ha8 := ha9))
  k_with "subscriptTail Name BinOp" => (rename News _ _ _ _ => lN'; refine' rf_led (gd := g0 :: gs) (N9 := (g0 :: gs).length) lN' ?rfm rfl (Nat.succ_pos _) ?rfz (fun a9 ha9 => ?_); (case rfm => k_mem); (case rfz => omega); (have ha8 := hsubg _ ha9))
  k_with "LedEnd" => ((have hzz := ha8); (rename News _ _ _ _ => lN'); (refine' gp_end (M := _) (mv := m0 :: ms) (a := a9) (x := x) (y := y) (z := z) (by k_asm) lN' ?gpI ?gpf ?gpm ha8 hx hy hz hmv hMlt ?gpIM hfIk ?gpD ?gph ?gpo); (case gpI => k_mem); (case gpf => kcj_all); (case gpm => (intro p hp; (repeat (first | exact hp | refine List.Mem.tail _ ?_)))); (case gpIM => omega); (case gpD => k_mem); (case gph => rfl); (case gpo => (intro z h1 h2 h3 h4 h5 h6; simp only [h1, h2, h3, h4, h5, h6, if_false])))
  k_go0
  all_goals try k_fold
  k_steps)
end Mine
end
end
theorem PySem.Challenge.cw_ux0002_02_holds : PySem.Challenge.rw_ux0002_02.Holds := by
  exact Mine.lawB
