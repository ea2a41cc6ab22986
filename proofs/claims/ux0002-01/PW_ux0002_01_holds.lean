import PyProof.Rows.All
import Wide.All
import OpenK.AllK
import Wide.FinOn
import PySem.Challenge.RW_ux0002_01
set_option Elab.async false
section
open PySem PySem.W PyProof.Rows
namespace Mine
set_option maxRecDepth 100000 in
set_option maxHeartbeats 8000000 in
open_top hdA for PySem.Challenge.rw_ux0002_01
end Mine
end
section
open PySem PySem.W PyProof.Rows PySem.Calls
set_option linter.unusedVariables false
set_option maxRecDepth 100000
namespace Mine
open Builtin.Str
section
variable {prog : Program} {w : World} {A : Around} {E : Value → Shared → Prop} {s : Shared} {h₀ : Heap} {L D : Addr} {m : Str → Option Value} {news news' : List (Addr × Obj)}

theorem truthy_split {x : Str} {t : Tok} {Q : Bool → Shared → Prop} (h63 : x.length ≤ 100000)
    (h1 : x.length ≠ 0 → ∀ k, Q true { s with toks := k }) (h0 : x.length = 0 → ∀ k, Q false { s with toks := k }) :
    wpAny (model prog w) A (PySem.truthy (.str x t)) Q E s := by
  refine SBL.truthy (by omega) ?_
  by_cases h : x.length = 0
  · have e : ((x.length : Int) != 0) = false := by simp [h]
    rw [e]; exact h0 h _
  · have e : ((x.length : Int) != 0) = true := by simp [h]
    rw [e]; exact h1 h _

theorem cut_of : ∀ (l : List Value) (k : Nat), k < l.length → ki_delL l k = some (l.eraseIdx k)
  | [], _, h => by simp at h
  | _ :: _, 0, _ => rfl
  | x :: r, k + 1, h => by
    have ih := cut_of r k (by simpa using h)
    simp only [ki_delL, ih, List.eraseIdx_cons_succ]

theorem strsAre_values (l : List (Str × Tok)) : StrsAre (strValues l) (l.map (·.1)) := strsAre_of_values l

theorem map_erase {α β : Type} (f : α → β) : ∀ (l : List α) (k : Nat), (l.eraseIdx k).map f = (l.map f).eraseIdx k
  | [], _ => rfl
  | _ :: _, 0 => rfl
  | _ :: r, k + 1 => by rw [List.eraseIdx_cons_succ, List.map_cons, List.map_cons, List.eraseIdx_cons_succ, map_erase f r k]
theorem del_strs {l : List (Str × Tok)} {n k B : Nat} {i : Int} {u : Tok} {l' : List (Str × Tok)} {Q : Unit → Shared → Prop} (F : Fr h₀ L s.heap m) (N : News h₀ L s.heap news)
    (hB : ∀ a ∈ l.map (·.1), a.length ≤ B) (hz : l.length ≤ 100000) (hf : Builtin.List.listFitsIndex i = true) (hk : seqIndex? i l.length = some k) (hkl : k < l.length) (hl' : l.eraseIdx k = l')
    (U : Upd D (listOf (strValues l).toArray n) (listOf (strValues l').toArray (n + 1)) news news')
    (h : ∀ h', Fr h₀ L h' m → News h₀ L h' news' → h'.IsList D (strValues l').toArray → StrsAre (strValues l') (l'.map (·.1)) → (∀ a ∈ l'.map (·.1), a.length ≤ B) → l'.length + 1 = l.length → Q () { s with heap := h' }) :
    wpAny (model prog w) A (delItem (.ref D) (.int i u)) Q E s := by
  have hlen : (strValues l).length = l.length := by simp [strValues]
  have hcut := cut_of (strValues l) k (by omega)
  have he : (strValues l).eraseIdx k = strValues l' := by rw [← hl']; unfold strValues; rw [map_erase]
  rw [he] at hcut
  refine ki_del (its := (strValues l).toArray) F N hf (by simpa [hlen] using hk) (by simpa using hcut) U (by rw [sizeLine_eq]; show (strValues l).length ≤ _; omega) (fun h' F' N' => ?_)
  obtain ⟨pre, post, rfl, rfl, a, b⟩ := U.split
  refine h h' F' N' ⟨_, (N' (D, _) (List.mem_append.mpr (.inr (.head _)))).1, rfl, _, rfl⟩ (strsAre_values l') (fun a ha => hB a ?_) ?_
  · subst hl'
    have : (l.eraseIdx k).map (·.1) = (l.map (·.1)).eraseIdx k := map_erase _ l k
    rw [this] at ha
    exact List.mem_of_mem_eraseIdx ha
  · subst hl'; rw [List.length_eraseIdx]; simp only [hkl, if_true]; omega

theorem gives_find4 (x y : Str) (i j : Int) (t u v r : Tok) : Gives (Builtin.«str.find» ⟨[.str x t, .str y u, .int i v, .int j r], []⟩) (.int (match occurrences x y (fromIndex x.length i) (min (fromIndex x.length j) x.length) 1 with | k :: _ => (k : Int) | [] => -1)) := by
  show Gives (match occurrences x y (fromIndex x.length i) (min (fromIndex x.length j) x.length) 1 with | k :: _ => retInt k | [] => (do rule "str.find.not-found"; retInt (-1))) _
  cases occurrences x y (fromIndex x.length i) (min (fromIndex x.length j) x.length) 1 with
  | nil => exact .rule (.of_eq rfl)
  | cons k _ => exact .of_eq rfl
theorem fromIndex_nat (n k : Nat) : fromIndex n (k : Int) = k := by
  unfold fromIndex
  have : ¬ ((k : Int) < 0) := by omega
  simp only [this, if_false]; omega

theorem find4 {x y : Str} {t u v r : Tok} {i j : Int} {a : Nat} {Q : Value → Shared → Prop} (hi : i = (a : Nat)) (hj : 0 ≤ j) (hb : j.toNat ≤ x.length)
    (h1 : ∀ k rest, occurrences x y a j.toNat 1 = k :: rest → ∀ t' tk, Q (.int (k : Nat) t') { s with toks := tk })
    (h0 : occurrences x y a j.toNat 1 = [] → ∀ t' tk, Q (.int (-1) t') { s with toks := tk }) :
    wpAny (model prog w) A (call (.builtin "str.find") [.str x t, .str y u, .int i v, .int j r]) Q E s := by
  refine call_gives F.slot_str_find (typeIs_str _ _ _) F.entry_str_find (F.args_str_find_4 _ _ _ _) (gives_find4 x y i j t u v r) ?_
  have ej : fromIndex x.length j = j.toNat := by
    unfold fromIndex
    have : ¬ (j < 0) := by omega
    simp only [this, if_false]; omega
  subst hi
  rw [fromIndex_nat, ej, Nat.min_eq_left hb]
  cases he : occurrences x y a j.toNat 1 with
  | nil => exact h0 he _ _
  | cons k rest => exact h1 k rest he _ _
theorem len_str {x : Str} {t : Tok} {Q : Value → Shared → Prop} (h63 : x.length ≤ 100000) (h : ∀ t' tk, Q (.int x.length t') { s with toks := tk }) : wpAny (model prog w) A (call (.builtin "len") [.str x t]) Q E s :=
  SBL.len (by omega) (h _ _)
end

/-! a loop over a list of the ledger, any values -/
section
variable {prog : Program} {w : World} {A : Around} {E : Value → Shared → Prop} {s : Shared} {env : Env} {h₀ : Heap} {x : Str} {body : List Stmt} {Q : Flow → Shared → Prop}

def LedEnd (h₀ : Heap) (L : Addr) (J : (Str → Option Value) → List (Addr × Obj) → Prop) (I : Addr) (oI : Obj) (pD : Addr × Obj) (s₁ s₂ : Shared) : Prop :=
  ∃ h' tk m' nx, s₂ = { s₁ with heap := h', toks := tk } ∧ Fr h₀ L h' m' ∧ News h₀ L h' ((I, oI) :: nx) ∧ (∀ p ∈ nx, p.1 ≠ I) ∧ pD ∈ nx ∧ J m' nx
def LedPost (h₀ : Heap) (L : Addr) (J : (Str → Option Value) → List (Addr × Obj) → Prop) (I : Addr) (oI : Obj) (pD : Addr × Obj) (s₁ : Shared) (Q : Flow → Shared → Prop) (f : Flow) (s₂ : Shared) : Prop :=
  match f with
  | .ret v => Q (.ret v) s₂
  | .brk => Q .next s₂
  | _ => LedEnd h₀ L J I oI pD s₁ s₂
theorem LedEnd.intro {L : Addr} {J : (Str → Option Value) → List (Addr × Obj) → Prop} {I : Addr} {oI : Obj} {pD : Addr × Obj} {s₁ : Shared} {h' : Heap} {tk : Nat} {m' : Str → Option Value} {led nx : List (Addr × Obj)}
    (F : Fr h₀ L h' m') (N : News h₀ L h' led) (hs : ∀ p ∈ (I, oI) :: nx, p ∈ led) (hI : ∀ p ∈ nx, p.1 ≠ I) (hD : pD ∈ nx) (hJ : J m' nx) : LedEnd h₀ L J I oI pD s₁ { s₁ with heap := h', toks := tk } :=
  ⟨h', tk, m', nx, rfl, F, fun p hp => N p (hs p hp), hI, hD, hJ⟩

theorem iter_led {D : Addr} {vs : List Value} {nn : Nat} {m₀ : Str → Option Value} {news : List (Addr × Obj)} (J : Nat → (Str → Option Value) → List (Addr × Obj) → Prop)
    (hh : A.handled = none) (hl : (D, listOf vs.toArray nn) ∈ news) (F : Fr h₀ env.locals s.heap m₀) (N : News h₀ env.locals s.heap news) (hj : J 0 m₀ news)
    (turn : ∀ i v m₁ news₁ h tk I oI, vs[i]? = some v → (D, listOf vs.toArray nn) ∈ news₁ → (∀ p ∈ news₁, p.1 ≠ I) → (∀ p ∈ news, p.1 < I) → J i m₁ news₁ → Fr h₀ env.locals h (fun y => if y = x then some v else m₁ y) → News h₀ env.locals h ((I, oI) :: news₁) →
      wpAny (model prog w) A (execs body env) (LedPost h₀ env.locals (J (i + 1)) I oI (D, listOf vs.toArray nn) { s with heap := h, toks := tk } Q) E { s with heap := h, toks := tk })
    (done : ∀ m₁ news₁ h tk, (D, listOf vs.toArray nn) ∈ news₁ → J vs.length m₁ news₁ → Fr h₀ env.locals h m₁ → News h₀ env.locals h news₁ → Q .next { s with heap := h, toks := tk }) :
    wpAny (model prog w) A (pyIter (.ref D)) (fun it s₂ => LoopAtV prog w A h₀ env x body Q E it s₂) E s := by
  have got : s.heap.get? D = some (listOf vs.toArray nn) := (N _ hl).1
  have isl : s.heap.IsList D vs.toArray := ⟨_, got, rfl, nn, rfl⟩
  have dne : D ≠ s.heap.objs.size := Nat.ne_of_lt (Heap.lt_size got)
  have low : ∀ p ∈ news, p.1 < s.heap.objs.size := fun p hp => Heap.lt_size (N p hp).1
  refine wpAny_pyIter_list isl ?_
  have W := Walks.list (prog := prog) (w := w) hh s.heap.objs.size D dne vs.toArray
  refine ⟨_, _, _, _, _, _, m₀, news, (fun i m nx => (D, listOf vs.toArray nn) ∈ nx ∧ J i m nx), rfl, W, ?_, ?_, ?_, ⟨⟨_, Heap.get?_push_size _ rfl, rfl, rfl⟩, isl.at fun o e => Heap.get?_push_of_some _ e⟩, F.push _, (fun p hp => ⟨Heap.get?_push_of_some _ (N p hp).1, (N p hp).2⟩), ⟨hl, hj⟩, ?_, ?_⟩
  · intro hm
    rcases List.mem_cons.mp hm with e | hm
    · exact absurd F.ns.lt (e ▸ Nat.lt_irrefl _)
    · exact (N _ hl).2.1 (List.mem_singleton.mp hm).symm
  · intro b hb
    rw [List.mem_singleton.mp hb]
    exact next_is_new F
  · intro p hp hI
    have := low p hp
    rw [List.mem_singleton.mp hI] at this
    exact Nat.lt_irrefl _ this
  · rintro i v m₁ news₁ s₁ own ⟨hh', tk', rfl⟩ hin hP ⟨hl₁, hJ⟩ hoff hown hget hfp hst F₁ N₁
    have hv : vs[i]? = some v := by simpa using hP
    obtain ⟨⟨oI, hoI, _⟩, _⟩ := hst
    have hIo : (s.heap.objs.size, oI) ∈ own := hfp _ (by simp) (next_is_new F) oI hoI
    have hne : ∀ p ∈ news₁, p.1 ≠ s.heap.objs.size := fun p hp e => hoff p hp (by rw [e]; exact List.mem_singleton.mpr rfl)
    have N₂ : News h₀ env.locals hh' ((s.heap.objs.size, oI) :: news₁) := fun p hp => by
      rcases List.mem_cons.mp hp with rfl | hp
      · exact N₁ _ (List.mem_append.mpr (.inl hIo))
      · exact N₁ _ (List.mem_append.mpr (.inr hp))
    have hlo : hh'.get? D = some (listOf vs.toArray nn) := (N₁ _ (List.mem_append.mpr (.inr hl₁))).1
    refine wpAny_mono (turn i v m₁ news₁ hh' tk' _ oI hv hl₁ hne low hJ F₁ N₂) (fun f s₂ p => ?_) fun _ _ e => e
    have fin : LedEnd h₀ env.locals (J (i + 1)) s.heap.objs.size oI (D, listOf vs.toArray nn) { s with heap := hh', toks := tk' } s₂ →
        LoopStepU h₀ env.locals [s.heap.objs.size] own (fun m nx => (D, listOf vs.toArray nn) ∈ nx ∧ J (i + 1) m nx) { s with heap := hh', toks := tk' } .next s₂ := by
      rintro ⟨h', tk, m', nx, e, F', N', hI', hD', hJ'⟩
      refine ⟨rfl, h', tk, m', nx, e, F', fun p hp => ?_, fun p hp hw => hI' p hp (List.mem_singleton.mp hw), hD', hJ'⟩
      rcases List.mem_append.mp hp with h | h
      · have hg := hget p h
        rcases List.mem_cons.mp (hown p h) with h2 | h2
        · have : p = (s.heap.objs.size, oI) := Prod.ext h2 (by rw [h2, hoI] at hg; exact (Option.some.inj hg).symm)
          rw [this]; exact N' _ (.head _)
        · have h2' := List.mem_singleton.mp h2
          have : p = (D, listOf vs.toArray nn) := Prod.ext h2' (by rw [h2', hlo] at hg; exact (Option.some.inj hg).symm)
          rw [this]; exact N' _ (.tail _ hD')
      · exact N' _ (.tail _ h)
    cases f with
    | ret v => exact .ret p
    | brk => exact .brk p
    | next => exact .next (fin p)
    | cont => exact .cont (fin p)
  · rintro h' tk m' news' F' N' _ ⟨hl', hJ⟩
    exact done m' news' h' tk hl' (by simpa using hJ) F' N'
end

/-- the plain loop of the matcher -/
def elLoop (got : Str) : List Str → Nat → Nat → Bool
  | [], _, _ => true
  | w :: ws, st, en => match occurrences got w st en 1 with
    | i :: _ => elLoop got ws (i + w.length) en
    | [] => false
abbrev dots : Str := Str.ofString "..."
def ellTail (got : Str) (ws : List Str) (v0 : Int) : Bool :=
  if (ws.getD (-1 + (ws.length : Int)).toNat Str.empty).length = 0 then
    (if (got.length : Int) < v0 then false else elLoop got ws v0.toNat (got.length : Int).toNat)
  else if Txt.endswith got (ws.getD (-1 + (ws.length : Int)).toNat Str.empty) then
    (if (got.length : Int) - ((ws.getD (-1 + (ws.length : Int)).toNat Str.empty).length : Int) < v0 then false
     else elLoop got ws.dropLast v0.toNat ((got.length : Int) - ((ws.getD (-1 + (ws.length : Int)).toNat Str.empty).length : Int)).toNat)
  else false
def ellB (got : Str) (ws : List Str) : Bool :=
  if (ws.getD 0 Str.empty).length = 0 then ellTail got ws 0
  else if Txt.startswith got (ws.getD 0 Str.empty) then ellTail got (ws.drop 1) ((ws.getD 0 Str.empty).length : Int)
  else false
def ellM (want got : Str) : Bool :=
  if (occurrences want (Str.ofString "...") 0 want.length 1).isEmpty then want == got else ellB got (Txt.split want (Str.ofString "..."))

/-! the matcher's own steps -/
theorem split_len {l : List (Str × Tok)} {x : Str} (h : l.map (·.1) = Txt.split x dots) : l.length ≤ x.length + 2 := by
  have hl : l.length = (Txt.split x dots).length := by rw [← h]; simp
  rw [hl]
  unfold Txt.split
  split
  · simp
  · split
    · simp
    · rw [StrLaws.partsBetween_eq]
      have : ∀ (cuts : List Nat) (a w : Nat), (StrLaws.partsFrom x w a cuts).length = cuts.length + 1 := by
        intro cuts
        induction cuts with
        | nil => intro a w; rfl
        | cons c r ih => intro a w; simp [StrLaws.partsFrom, ih]
      rw [this]
      have := StrLaws.occ_length_le x dots 0 x.length (x.length + 1)
      omega
theorem erase_last {α : Type} : ∀ l : List α, l.eraseIdx (l.length - 1) = l.dropLast
  | [] => rfl
  | [_] => rfl
  | a :: b :: r => by
    have ih := erase_last (b :: r)
    simp only [List.length_cons, Nat.add_sub_cancel] at ih ⊢
    rw [List.eraseIdx_cons_succ, List.dropLast_cons_cons, ih]
theorem getD_len {ys : List Str} {B : Nat} (h : ∀ a ∈ ys, a.length ≤ B) (n : Nat) : (ys.getD n Str.empty).length ≤ B := by
  rw [List.getD_eq_getElem?_getD]
  cases e : ys[n]? with
  | none => exact Nat.zero_le _
  | some a => exact h a (List.mem_of_getElem? e)
theorem seqIndex_last {n : Nat} (h : 1 ≤ n) : seqIndex? (-1) n = some (n - 1) := by
  rw [seqIndex_neg (by omega) (by omega)]; congr 1; omega
theorem seqIndex_zero {n : Nat} (h : 1 ≤ n) : seqIndex? 0 n = some 0 := by
  rw [StrLaws.seqIndex_nonneg (by omega) (by omega)]; rfl
section
variable {prog : Program} {w : World} {A : Around} {E : Value → Shared → Prop} {s : Shared} {h₀ : Heap} {L D : Addr} {m : Str → Option Value} {news news' : List (Addr × Obj)}
theorem del_first {l : List (Str × Tok)} {n B : Nat} {u : Tok} {Q : Unit → Shared → Prop} (F : Fr h₀ L s.heap m) (N : News h₀ L s.heap news)
    (hB : ∀ a ∈ l.map (·.1), a.length ≤ B) (hz : l.length ≤ 100000) (h1 : 1 ≤ l.length)
    (U : Upd D (listOf (strValues l).toArray n) (listOf (strValues (l.drop 1)).toArray (n + 1)) news news')
    (h : ∀ h', Fr h₀ L h' m → News h₀ L h' news' → h'.IsList D (strValues (l.drop 1)).toArray → StrsAre (strValues (l.drop 1)) ((l.drop 1).map (·.1)) → (∀ a ∈ (l.drop 1).map (·.1), a.length ≤ B) → (l.drop 1).length + 1 = l.length → Q () { s with heap := h' }) :
    wpAny (model prog w) A (delItem (.ref D) (.int 0 u)) Q E s :=
  del_strs F N hB hz (by decide) (seqIndex_zero h1) h1 (by cases l <;> rfl) U h
theorem del_last {l : List (Str × Tok)} {n B : Nat} {u : Tok} {Q : Unit → Shared → Prop} (F : Fr h₀ L s.heap m) (N : News h₀ L s.heap news)
    (hB : ∀ a ∈ l.map (·.1), a.length ≤ B) (hz : l.length ≤ 100000) (h1 : 1 ≤ l.length)
    (U : Upd D (listOf (strValues l).toArray n) (listOf (strValues l.dropLast).toArray (n + 1)) news news')
    (h : ∀ h', Fr h₀ L h' m → News h₀ L h' news' → h'.IsList D (strValues l.dropLast).toArray → StrsAre (strValues l.dropLast) (l.dropLast.map (·.1)) → (∀ a ∈ l.dropLast.map (·.1), a.length ≤ B) → l.dropLast.length + 1 = l.length → Q () { s with heap := h' }) :
    wpAny (model prog w) A (delItem (.ref D) (.int (-1) u)) Q E s :=
  del_strs F N hB hz (by decide) (seqIndex_last h1) (by omega) (erase_last l) U h
end
section
variable {prog : Program} {w : World} {A : Around} {E : Value → Shared → Prop} {s : Shared} {env : Env} {h₀ : Heap} {body : List Stmt} {Q : Flow → Shared → Prop}
def ElJ (got : Str) (ys : List Str) (en : Nat) (R : Bool) (m₀ : Str → Option Value) (news : List (Addr × Obj)) (i : Nat) (m : Str → Option Value) (nx : List (Addr × Obj)) : Prop :=
  nx = news ∧ ∃ (u : Option Value) (st : Nat) (v : Int) (t : Tok), v = st ∧ (m = fun z => if z = Str.ofString "w" then u else if z = Str.ofString "startpos" then some (.int v t) else m₀ z) ∧ elLoop got (ys.drop i) st en = R
theorem ell_iter {D : Addr} {l : List (Str × Tok)} {nn B : Nat} {got : Str} {v0 ve : Int} {t0 te tg : Tok} {m₀ : Str → Option Value} {news : List (Addr × Obj)}
    (hh : A.handled = none) (hl : (D, listOf (strValues l).toArray nn) ∈ news) (F : Fr h₀ env.locals s.heap m₀) (N : News h₀ env.locals s.heap news)
    (hB : ∀ a ∈ l.map (·.1), a.length ≤ B) (_hgot : m₀ (Str.ofString "got") = some (.str got tg)) (_hend : m₀ (Str.ofString "endpos") = some (.int ve te)) (hm0 : m₀ (Str.ofString "startpos") = some (.int v0 t0)) (hv0 : 0 ≤ v0)
    (turn : ∀ i y t st (v : Int) ts h tk I oI, y.length ≤ B → v = (st : Nat) → (∀ p ∈ news, p.1 < I) → elLoop got (y :: (l.map (·.1)).drop (i + 1)) st ve.toNat = elLoop got (l.map (·.1)) v0.toNat ve.toNat →
      Fr h₀ env.locals h (fun z => if z = Str.ofString "w" then some (.str y t) else if z = Str.ofString "startpos" then some (.int v ts) else m₀ z) → News h₀ env.locals h ((I, oI) :: news) →
      wpAny (model prog w) A (execs body env) (LedPost h₀ env.locals (ElJ got (l.map (·.1)) ve.toNat (elLoop got (l.map (·.1)) v0.toNat ve.toNat) m₀ news (i + 1)) I oI (D, listOf (strValues l).toArray nn) { s with heap := h, toks := tk } Q) E { s with heap := h, toks := tk })
    (done : ∀ u (v : Int) ts h tk, elLoop got (l.map (·.1)) v0.toNat ve.toNat = true → Fr h₀ env.locals h (fun z => if z = Str.ofString "w" then u else if z = Str.ofString "startpos" then some (.int v ts) else m₀ z) → News h₀ env.locals h news → Q .next { s with heap := h, toks := tk }) :
    wpAny (model prog w) A (pyIter (.ref D)) (fun it s₂ => LoopAtV prog w A h₀ env (Str.ofString "w") body Q E it s₂) E s := by
  refine iter_led (ElJ got (l.map (·.1)) ve.toNat (elLoop got (l.map (·.1)) v0.toNat ve.toNat) m₀ news) hh hl F N ⟨rfl, m₀ (Str.ofString "w"), v0.toNat, v0, t0, by omega, ?_, rfl⟩ ?_ ?_
  · funext z
    by_cases h1 : z = Str.ofString "w"
    · rw [if_pos h1, h1]
    · by_cases h2 : z = Str.ofString "startpos"
      · rw [if_neg h1, if_pos h2, h2]; exact hm0
      · rw [if_neg h1, if_neg h2]
  · rintro i v m₁ news₁ h tk I oI hv hD hne low ⟨rfl, u, st, v1, t1, hv1, rfl, hR⟩ F₁ N₁
    have hi : i < l.length := by
      have := (List.getElem?_eq_some_iff.mp hv).1
      simpa [strValues] using this
    have hval : v = .str l[i].1 l[i].2 := by
      have : (strValues l)[i]? = some (.str l[i].1 l[i].2) := by simp [strValues, hi]
      rw [this] at hv; exact (Option.some.inj hv).symm
    subst hval
    have hdrop : (l.map (·.1)).drop i = l[i].1 :: (l.map (·.1)).drop (i + 1) := by
      rw [List.drop_eq_getElem_cons (by simpa using hi)]; simp
    rw [hdrop] at hR
    refine turn i l[i].1 l[i].2 st v1 t1 h tk I oI (hB _ (List.mem_map.mpr ⟨l[i], List.getElem_mem hi, rfl⟩)) hv1 low hR ?_ N₁
    have e : (fun y => if y = Str.ofString "w" then some (Value.str l[i].1 l[i].2) else (fun z => if z = Str.ofString "w" then u else if z = Str.ofString "startpos" then some (Value.int v1 t1) else m₀ z) y)
        = fun z => if z = Str.ofString "w" then some (Value.str l[i].1 l[i].2) else if z = Str.ofString "startpos" then some (Value.int v1 t1) else m₀ z := by
      funext z
      by_cases h1 : z = Str.ofString "w"
      · rw [if_pos h1, if_pos h1]
      · rw [if_neg h1, if_neg h1]; dsimp only; rw [if_neg h1]
    rw [← e]; exact F₁
  · rintro m₁ news₁ h tk hD ⟨rfl, u, st, v1, t1, hv1, rfl, hR⟩ F₁ N₁
    refine done u v1 t1 h tk ?_ F₁ N₁
    rw [← hR]
    have : (l.map (·.1)).drop (strValues l).length = [] := by simp [strValues]
    rw [this]; rfl
theorem ell_end {I : Addr} {oI : Obj} {pD : Addr × Obj} {got y : Str} {ys : List Str} {R : Bool} {i st en k : Nat} {rest : List Nat} {v : Int} {t : Tok} {m₀ m' : Str → Option Value} {news led : List (Addr × Obj)} {L : Addr} {h' : Heap} {tk : Nat} {s₁ : Shared}
    (hr : elLoop got (y :: ys.drop (i + 1)) st en = R) (he : occurrences got y st en 1 = k :: rest) (F : Fr h₀ L h' m') (N : News h₀ L h' led)
    (hm : m' (Str.ofString "startpos") = some (.int v t)) (hv : v = (k : Int) + (y.length : Int)) (hm' : ∀ z, z ≠ Str.ofString "w" → z ≠ Str.ofString "startpos" → m' z = m₀ z)
    (hsub : ∀ p ∈ (I, oI) :: news, p ∈ led) (low : ∀ p ∈ news, p.1 < I) (hD : pD ∈ news) :
    LedEnd h₀ L (ElJ got ys en R m₀ news (i + 1)) I oI pD s₁ { s₁ with heap := h', toks := tk } := by
  refine .intro F N hsub (fun p hp => Nat.ne_of_lt (low p hp)) hD ⟨rfl, m' (Str.ofString "w"), k + y.length, v, t, by omega, ?_, ?_⟩
  · funext z
    by_cases h1 : z = Str.ofString "w"
    · rw [if_pos h1, h1]
    · by_cases h2 : z = Str.ofString "startpos"
      · rw [if_neg h1, if_pos h2, h2]; exact hm
      · rw [if_neg h1, if_neg h2]; exact hm' z h1 h2
  · rw [← hr]
    simp only [elLoop, he]
end

section
variable {want got y : Str} {l l1 : List (Str × Tok)} {v0 : Int}
theorem ell_no (h : (occurrences want (Str.ofString "...") 0 want.length 1).isEmpty = true) : (want == got) = ellM want got := by
  unfold ellM; rw [if_pos h]
theorem ell_startno (h : (occurrences want (Str.ofString "...") 0 want.length 1).isEmpty = false) (hl : l.map (·.1) = Txt.split want (Str.ofString "...")) (hy : (l.map (·.1))[Int.toNat 0]? = some y)
    (hy1 : y.length ≠ 0) (hs : Txt.startswith got y = false) : ellM want got = false := by
  have hd : (l.map (·.1)).getD 0 Str.empty = y := by rw [List.getD_eq_getElem?_getD]; rw [show (l.map (·.1))[0]? = some y from hy]; rfl
  unfold ellM; rw [if_neg (by rw [h]; exact Bool.false_ne_true), ← hl]; unfold ellB; rw [hd, if_neg hy1, hs]; rfl
theorem ell_tail1 (h : (occurrences want (Str.ofString "...") 0 want.length 1).isEmpty = false) (hl : l.map (·.1) = Txt.split want (Str.ofString "...")) (hy : (l.map (·.1))[Int.toNat 0]? = some y)
    (hy1 : y.length ≠ 0) (hs : Txt.startswith got y = true) : ellM want got = ellTail got ((l.drop 1).map (·.1)) (y.length : Int) := by
  have hd : (l.map (·.1)).getD 0 Str.empty = y := by rw [List.getD_eq_getElem?_getD]; rw [show (l.map (·.1))[0]? = some y from hy]; rfl
  unfold ellM; rw [if_neg (by rw [h]; exact Bool.false_ne_true), ← hl]; unfold ellB; rw [hd, if_neg hy1, if_pos hs, List.map_drop]
theorem ell_tail0 (h : (occurrences want (Str.ofString "...") 0 want.length 1).isEmpty = false) (hl : l.map (·.1) = Txt.split want (Str.ofString "...")) (hy : (l.map (·.1))[Int.toNat 0]? = some y)
    (hy0 : y.length = 0) : ellM want got = ellTail got (l.map (·.1)) 0 := by
  have hd : (l.map (·.1)).getD 0 Str.empty = y := by rw [List.getD_eq_getElem?_getD]; rw [show (l.map (·.1))[0]? = some y from hy]; rfl
  unfold ellM; rw [if_neg (by rw [h]; exact Bool.false_ne_true), ← hl]; unfold ellB; rw [hd, if_pos hy0]
abbrev lastOf (l : List (Str × Tok)) : Str := (l.map (·.1)).getD (-1 + ((l.map (·.1)).length : Int)).toNat Str.empty
theorem tail_no (h1 : (lastOf l1).length ≠ 0) (he : Txt.endswith got (lastOf l1) = false) : ellTail got (l1.map (·.1)) v0 = false := by
  unfold ellTail; rw [if_neg h1, he]; rfl
theorem tail_gt (h1 : (lastOf l1).length ≠ 0) (he : Txt.endswith got (lastOf l1) = true) (hg : (got.length : Int) - ((lastOf l1).length : Int) < v0) : ellTail got (l1.map (·.1)) v0 = false := by
  unfold ellTail; rw [if_neg h1, if_pos he, if_pos hg]
theorem tail_loop (h1 : (lastOf l1).length ≠ 0) (he : Txt.endswith got (lastOf l1) = true) (hg : ¬ (got.length : Int) - ((lastOf l1).length : Int) < v0) :
    ellTail got (l1.map (·.1)) v0 = elLoop got (l1.dropLast.map (·.1)) v0.toNat ((got.length : Int) - ((lastOf l1).length : Int)).toNat := by
  unfold ellTail; rw [if_neg h1, if_pos he, if_neg hg, List.map_dropLast]
theorem tail_gt0 (h1 : (lastOf l1).length = 0) (hg : (got.length : Int) < v0) : ellTail got (l1.map (·.1)) v0 = false := by
  unfold ellTail; rw [if_pos h1, if_pos hg]
theorem tail_loop0 (h1 : (lastOf l1).length = 0) (hg : ¬ (got.length : Int) < v0) : ellTail got (l1.map (·.1)) v0 = elLoop got (l1.map (·.1)) v0.toNat (got.length : Int).toNat := by
  unfold ellTail; rw [if_pos h1, if_neg hg]
theorem loop_none {ws : List Str} {st en st0 en0 : Nat} {ws0 : List Str} (hr : elLoop got (y :: ws) st en = elLoop got ws0 st0 en0) (he : occurrences got y st en 1 = []) : elLoop got ws0 st0 en0 = false := by
  rw [← hr]; simp only [elLoop, he]
theorem split_ge2 (h : (occurrences want (Str.ofString "...") 0 want.length 1).isEmpty = false) (hl : l.map (·.1) = Txt.split want (Str.ofString "...")) : 2 ≤ l.length := by
  have hll : l.length = (Txt.split want (Str.ofString "...")).length := by rw [← hl]; simp
  rw [hll]
  have hf := (StrLaws.found_iff want (Str.ofString "...")).mp (by rw [h]; rfl)
  obtain ⟨i, hi, hs⟩ := hf
  have hne : (occurrences want (Str.ofString "...") 0 want.length (want.length + 1)).isEmpty = false := by
    rcases StrLaws.occ_head want (Str.ofString "...") (want.length + 1) (by omega) with ⟨h1, h2⟩ | ⟨a, r, h1, _⟩
    · exact absurd ⟨hi, hs⟩ (h2 i)
    · rw [h1]; rfl
  have hk := kind_le want (Str.ofString "...") hs
  unfold Txt.split
  rw [if_neg (by simp; exact ⟨by omega, hk⟩)]
  rw [if_neg (by rw [hne]; exact Bool.false_ne_true)]
  rw [StrLaws.partsBetween_eq]
  cases hc : occurrences want (Str.ofString "...") 0 want.length (want.length + 1) with
  | nil => rw [hc] at hne; cases hne
  | cons a r =>
    obtain ⟨p, r', hp⟩ := StrLaws.partsFrom_ne want (Str.ofString "...").length (a + (Str.ofString "...").length) r
    simp only [StrLaws.partsFrom, hp, List.length_cons]; omega
end
end Mine
end
section
open PySem PySem.W PyProof.Rows PySem.Calls
set_option linter.unusedVariables false
set_option maxRecDepth 100000
namespace Mine
open Builtin.Str
section
variable {prog : Program} {w : World} {A : Around} {E : Value → Shared → Prop} {s : Shared} {env : Env} {h₀ : Heap} {L : Addr} {Q : Flow → Shared → Prop}

def WhEnd {σ : Type} (h₀ : Heap) (L : Addr) (J : σ → (Str → Option Value) → List (Addr × Obj) → Prop) (μ : σ → Nat) (c : σ) (s₁ s₂ : Shared) : Prop :=
  ∃ c' h' tk m' nx, s₂ = { s₁ with heap := h', toks := tk } ∧ Fr h₀ L h' m' ∧ News h₀ L h' nx ∧ μ c' < μ c ∧ J c' m' nx
def WhPost {σ : Type} (h₀ : Heap) (L : Addr) (J : σ → (Str → Option Value) → List (Addr × Obj) → Prop) (μ : σ → Nat) (c : σ) (s₁ : Shared) (Q : Flow → Shared → Prop) (f : Flow) (s₂ : Shared) : Prop :=
  match f with
  | .ret v => Q (.ret v) s₂
  | .brk => Q .next s₂
  | _ => WhEnd h₀ L J μ c s₁ s₂
theorem WhEnd.intro {σ : Type} {J : σ → (Str → Option Value) → List (Addr × Obj) → Prop} {μ : σ → Nat} {c : σ} {s₁ : Shared} {h' : Heap} {tk : Nat} {m' : Str → Option Value} {led nx : List (Addr × Obj)} (c' : σ)
    (F : Fr h₀ L h' m') (N : News h₀ L h' led) (hs : ∀ p ∈ nx, p ∈ led) (hm : μ c' < μ c) (hJ : J c' m' nx) : WhEnd h₀ L J μ c s₁ { s₁ with heap := h', toks := tk } :=
  ⟨c', h', tk, m', nx, rfl, F, fun p hp => N p (hs p hp), hm, hJ⟩

theorem while_st {σ : Type} {test : Expr} {body : List Stmt} {pos : Pos} {m₀ : Str → Option Value} {news : List (Addr × Obj)} (J : (Str → Option Value) → List (Addr × Obj) → σ → (Str → Option Value) → List (Addr × Obj) → Prop) (μ : σ → Nat) (c₀ : σ)
    (F : Fr h₀ L s.heap m₀) (N : News h₀ L s.heap news) (hJ : J m₀ news c₀ m₀ news)
    (turn : ∀ c m₁ nx h tk, J m₀ news c m₁ nx → Fr h₀ L h m₁ → News h₀ L h nx →
      wpAny (model prog w) A (isTrue test env (eval test env)) (fun b s₂ =>
        if b = true then wpAny (model prog w) A (execs body env) (WhPost h₀ L (J m₀ news) μ c s Q) E s₂ else Q .next s₂) E { s with heap := h, toks := tk })
    (hE : PassesOwn (model prog w) A env E := by passes_own) :
    wpAny (model prog w) A (exec (.While test body [] pos) env) Q E s := by
  refine While_inv2 (fun n m nx => ∃ c : σ, μ c = n ∧ J m₀ news c m nx) F N ⟨c₀, rfl, hJ⟩ ?_ hE
  rintro n m₁ nx h tk F₁ N₁ ⟨c, rfl, hc⟩
  refine wpAny_mono (turn c m₁ nx h tk hc F₁ N₁) (fun b s₂ p => ?_) fun _ _ x => x
  cases b with
  | false => simpa using p
  | true =>
    simp only [if_true] at p ⊢
    refine wpAny_mono p (fun f s₃ q => ?_) fun _ _ x => x
    cases f with
    | ret v => exact q
    | brk => exact q
    | next => obtain ⟨c', h', tk', m', nx', rfl, F', N', hm, hj⟩ := q; exact ⟨h', tk', m', nx', μ c', rfl, F', N', hm, c', rfl, hj⟩
    | cont => obtain ⟨c', h', tk', m', nx', rfl, F', N', hm, hj⟩ := q; exact ⟨h', tk', m', nx', μ c', rfl, F', N', hm, c', rfl, hj⟩
end

/-! a frame's map with some names turned -/
theorem up1_of {m m' : Str → Option Value} {a : Str} {va : Option Value} (ha : m' a = va) (ho : ∀ z, z ≠ a → m' z = m z) : m' = fun z => if z = a then va else m z := by
  funext z
  by_cases h : z = a
  · rw [if_pos h, h, ha]
  · rw [if_neg h, ho z h]
theorem up2_of {m m' : Str → Option Value} {a b : Str} {va vb : Option Value} (ha : m' a = va) (hb : m' b = vb) (ho : ∀ z, z ≠ a → z ≠ b → m' z = m z) :
    m' = fun z => if z = a then va else if z = b then vb else m z :=
  up1_of ha fun z h => by
    by_cases h1 : z = b
    · rw [if_pos h1, h1, hb]
    · rw [if_neg h1, ho z h h1]
theorem up3_of {m m' : Str → Option Value} {a b c : Str} {va vb vc : Option Value} (ha : m' a = va) (hb : m' b = vb) (hc : m' c = vc) (ho : ∀ z, z ≠ a → z ≠ b → z ≠ c → m' z = m z) :
    m' = fun z => if z = a then va else if z = b then vb else if z = c then vc else m z :=
  up1_of ha fun z h => by
    have := congrFun (up2_of (m := fun y => if y = a then m' y else m y) (m' := m') hb hc (fun z h1 h2 => by
      by_cases h3 : z = a
      · rw [if_pos h3]
      · rw [if_neg h3, ho z h3 h1 h2])) z
    rw [this]
    by_cases h1 : z = b
    · rw [if_pos h1, if_pos h1]
    · rw [if_neg h1, if_neg h1]
      by_cases h2 : z = c
      · rw [if_pos h2, if_pos h2]
      · rw [if_neg h2, if_neg h2, if_neg h]

/-! the reply's reader -/
def unq : List Nat → List Nat
  | [] => []
  | [c] => if c = 34 then [] else [c]
  | c :: d :: r => if c = 34 then (if d = 34 then 34 :: unq r else []) else c :: unq (d :: r)
theorem unq_other {c : Nat} {r : List Nat} (h : c ≠ 34) : unq (c :: r) = c :: unq r := by
  cases r with
  | nil => simp [unq, h]
  | cons d r => simp [unq, h]
theorem unq_two {r : List Nat} : unq (34 :: 34 :: r) = 34 :: unq r := by simp [unq]
theorem unq_end {d : Nat} {r : List Nat} (h : d ≠ 34) : unq (34 :: d :: r) = [] := by simp [unq, h]
theorem unq_last : unq [34] = [] := by simp [unq]
theorem item_one {x : Str} {v : Int} {i : Nat} (hv : v = i) (hi : i < x.length) : ∃ c, Txt.item x v = ⟨#[c]⟩ ∧ x.cps.toList.drop i = c :: x.cps.toList.drop (i + 1) := by
  have hi' : i < x.cps.toList.length := by simpa [Str.length] using hi
  refine ⟨x.cps.toList[i], ?_, List.drop_eq_getElem_cons hi'⟩
  unfold Txt.item Txt.charAt
  rw [hv, StrLaws.seqIndex_nonneg (by omega) (by omega)]
  have : x.cps[i]? = some x.cps.toList[i] := by
    rw [← Array.getElem?_toList]; exact List.getElem?_eq_getElem hi'
  simp [this]
theorem quote_eq : Str.ofString "\"" = ⟨#[34]⟩ := by decide +kernel
theorem one_beq {c d : Nat} : ((⟨#[c]⟩ : Str) == ⟨#[d]⟩) = decide (c = d) := by
  rw [Bool.eq_iff_iff]; simp
theorem one_bne {c d : Nat} : ((⟨#[c]⟩ : Str) != ⟨#[d]⟩) = !decide (c = d) := by
  rw [bne, one_beq]

structure PwInv (resp : Str) (R : List Nat) (i : Nat) (d : Str) : Prop where
  le : i ≤ resp.length
  dl : d.length ≤ i
  eq : d.cps.toList ++ unq (resp.cps.toList.drop i) = R
section
variable {resp d : Str} {R : List Nat} {i : Nat} {v : Int}
theorem pw_done (H : PwInv resp R i d) (hv : v = i) (h : ¬ v < (resp.length : Int)) : d = ⟨R.toArray⟩ := by
  have h2 := H.eq
  have : resp.cps.toList.drop i = [] := List.drop_eq_nil_of_le (by simp [Str.length] at h; simp; omega)
  rw [this] at h2
  refine Str.ext' ?_
  rw [← h2]; simp [unq]
theorem pw_brk1 (H : PwInv resp R i d) (hv : v = i) (h : v < (resp.length : Int)) (hc : (Txt.item resp v == Str.ofString "\"") = true) (h2 : v + 1 ≥ (resp.length : Int)) : d = ⟨R.toArray⟩ := by
  obtain ⟨c, e1, e2⟩ := item_one (x := resp) hv (by omega)
  rw [e1, quote_eq, one_beq] at hc
  have hc' : c = 34 := by simpa using hc
  have h3 := H.eq
  have : resp.cps.toList.drop (i + 1) = [] := List.drop_eq_nil_of_le (by simp [Str.length] at h2; simp; omega)
  rw [e2, this, hc', unq_last] at h3
  refine Str.ext' ?_
  rw [← h3]; simp
theorem pw_brk2 (H : PwInv resp R i d) (hv : v = i) (h : v < (resp.length : Int)) (hc : (Txt.item resp v == Str.ofString "\"") = true) (h2 : ¬ v + 1 ≥ (resp.length : Int)) (hd : (Txt.item resp (v + 1) != Str.ofString "\"") = true) : d = ⟨R.toArray⟩ := by
  obtain ⟨c, e1, e2⟩ := item_one (x := resp) hv (by omega)
  obtain ⟨b, e3, e4⟩ := item_one (v := v + 1) (i := i + 1) (x := resp) (by omega) (by omega)
  rw [e1, quote_eq, one_beq] at hc
  rw [e3, quote_eq, one_bne] at hd
  have hc' : c = 34 := by simpa using hc
  have hb : b ≠ 34 := by simpa using hd
  have h3 := H.eq
  rw [e2, e4, hc', unq_end hb] at h3
  refine Str.ext' ?_
  rw [← h3]; simp
theorem pw_two (H : PwInv resp R i d) (hv : v = i) (h : v < (resp.length : Int)) (hc : (Txt.item resp v == Str.ofString "\"") = true) (h2 : ¬ v + 1 ≥ (resp.length : Int)) (hd : (Txt.item resp (v + 1) != Str.ofString "\"") = false) : PwInv resp R (i + 2) (d ++ Txt.item resp v) := by
  obtain ⟨c, e1, e2⟩ := item_one (x := resp) hv (by omega)
  obtain ⟨b, e3, e4⟩ := item_one (v := v + 1) (i := i + 1) (x := resp) (by omega) (by omega)
  rw [e1, quote_eq, one_beq] at hc
  rw [e3, quote_eq, one_bne] at hd
  have hc' : c = 34 := by simpa using hc
  have hb : b = 34 := by simpa using hd
  refine ⟨by omega, by rw [Str.length_append, e1]; have := H.dl; show d.length + 1 ≤ _; omega, ?_⟩
  have h3 := H.eq
  rw [e2, e4, hc', hb, unq_two] at h3
  rw [e1, Str.cps_append, Array.toList_append, ← h3, hc']
  simp
theorem pw_one (H : PwInv resp R i d) (hv : v = i) (h : v < (resp.length : Int)) (hc : (Txt.item resp v == Str.ofString "\"") = false) : PwInv resp R (i + 1) (d ++ Txt.item resp v) := by
  obtain ⟨c, e1, e2⟩ := item_one (x := resp) hv (by omega)
  rw [e1, quote_eq, one_beq] at hc
  have hc' : c ≠ 34 := by simpa using hc
  refine ⟨by omega, by rw [Str.length_append, e1]; have := H.dl; show d.length + 1 ≤ _; omega, ?_⟩
  have h3 := H.eq
  rw [e2, unq_other hc'] at h3
  rw [e1, Str.cps_append, Array.toList_append, ← h3]
  simp
end
def PwJ (resp : Str) (R : List Nat) (m₀ : Str → Option Value) (news : List (Addr × Obj)) (c : Nat × Str) (m : Str → Option Value) (nx : List (Addr × Obj)) : Prop :=
  nx = news ∧ ∃ (v : Int) (u : Option Value) (ti td : Tok), v = c.1 ∧ PwInv resp R c.1 c.2 ∧
    m = fun z => if z = Str.ofString "i" then some (.int v ti) else if z = Str.ofString "dirname" then some (.str c.2 td) else if z = Str.ofString "c" then u else m₀ z
theorem pw_end {resp : Str} {R : List Nat} {h₀ : Heap} {L : Addr} {m₀ m' : Str → Option Value} {news : List (Addr × Obj)} {c c' : Nat × Str} {s₁ : Shared} {h' : Heap} {tk : Nat} {v : Int} {ti td : Tok}
    (F : Fr h₀ L h' m') (N : News h₀ L h' news) (hI : PwInv resp R c'.1 c'.2) (hlt : resp.length - c'.1 < resp.length - c.1) (hi : m' (Str.ofString "i") = some (.int v ti)) (hv : v = c'.1) (hd : m' (Str.ofString "dirname") = some (.str c'.2 td))
    (ho : ∀ z, z ≠ Str.ofString "i" → z ≠ Str.ofString "dirname" → z ≠ Str.ofString "c" → m' z = m₀ z) :
    WhEnd h₀ L (PwJ resp R m₀ news) (fun c => resp.length - c.1) c s₁ { s₁ with heap := h', toks := tk } :=
  .intro c' F N (fun _ h => h) hlt ⟨rfl, v, m' (Str.ofString "c"), ti, td, hv, hI, up3_of hi hd rfl ho⟩

/-! lists of ints in the ledger, by their items -/
def iv (l : List (Int × Tok)) : List Value := l.map fun p => .int p.1 p.2
theorem iv_len (l : List (Int × Tok)) : (iv l).length = l.length := by simp [iv]
theorem iv_append (a b : List (Int × Tok)) : iv (a ++ b) = iv a ++ iv b := by simp [iv]
theorem iv_of_ints {vs : List Value} {ns : List Int} (h : IntsAre vs ns) : ∃ l : List (Int × Tok), vs = iv l ∧ l.map (·.1) = ns := by
  induction h with
  | nil => exact ⟨[], rfl, rfl⟩
  | cons n t _ ih => obtain ⟨l, rfl, rfl⟩ := ih; exact ⟨(n, t) :: l, rfl, rfl⟩
theorem klast_snoc (y : Value) : ∀ l : List Value, kl_last (l ++ [y]) = some (l, y)
  | [] => rfl
  | x :: r => by show (match kl_last (r ++ [y]) with | some (p, z) => some (x :: p, z) | none => some ([], x)) = _; rw [klast_snoc y r]
section
variable {prog : Program} {w : World} {A : Around} {E : Value → Shared → Prop} {s : Shared} {h₀ : Heap} {L D b : Addr} {m : Str → Option Value} {news news' : List (Addr × Obj)} {n n2 : Nat} {vs us : List Value} {y : Value}
theorem pop_led {Q : Value → Shared → Prop} (F : Fr h₀ L s.heap m) (N : News h₀ L s.heap news) (U : Upd D (listOf (vs ++ [y]).toArray n) (listOf vs.toArray (n + 1)) news news') (hz : vs.length ≤ 100000)
    (h : ∀ h', Fr h₀ L h' m → News h₀ L h' news' → Q y { s with heap := h' }) : wpAny (model prog w) A (call (.builtin "list.pop") [.ref D]) Q E s :=
  kl_pop (its := (vs ++ [y]).toArray) F N (klast_snoc y vs) U (by rw [sizeLine_eq]; simp; omega) h
theorem extend_led {Q : Value → Shared → Prop} (F : Fr h₀ L s.heap m) (N : News h₀ L s.heap news) (hb : (b, listOf us.toArray n2) ∈ news) (hne : us.length ≠ 0)
    (U : Upd D (listOf vs.toArray n) (listOf (vs ++ us).toArray (n + 1)) news news') (hz : vs.length + us.length ≤ 100000)
    (h : ∀ h', Fr h₀ L h' m → News h₀ L h' news' → Q .none { s with heap := h' }) : wpAny (model prog w) A (call (.builtin "list.extend") [.ref D, .ref b]) Q E s :=
  kl_extend (its := vs.toArray) (its2 := us.toArray) F N hb rfl (by simpa using hne) U
    (by
      have : Builtin.List.listTooLong (vs.toArray.size + us.toArray.size) = false := by
        unfold Builtin.List.listTooLong; simp [sizeLine_eq]; omega
      rw [this]; simp) (by rw [sizeLine_eq]; simp; omega) (by rw [sizeLine_eq]; simp; omega) h
theorem last_led {value slice : Expr} {u : Tok} {Q : Value → Shared → Prop} (N : News h₀ L s.heap news) (hm : (D, listOf (vs ++ [y]).toArray n) ∈ news) (hz : vs.length ≤ 100000) (h : Q y s)
    (hs : subscripted slice false (.ref D) (.int (-1) u) = operate [.ref D, .int (-1) u] (getItem (.ref D) (.int (-1) u)) := by with_unfolding_all rfl) :
    wpAny (model prog w) A (subscriptTail value slice (.ref D) (.int (-1) u)) Q E s := by
  have hl : s.heap.IsList D (vs ++ [y]).toArray := ⟨_, (N _ hm).1, rfl, n, rfl⟩
  refine tail_any hl.typeIs slot_list_getitem.lookup (wpAny_getItem_list_neg hl (by omega) (by simp; omega) (by omega) ?_ h) hs
  have : ((-1 : Int) + ((vs ++ [y]).toArray.size : Int)).toNat = vs.length := by simp; omega
  rw [this]; simp
theorem item_led {value slice : Expr} {k : Int} {u : Tok} {Q : Value → Shared → Prop} (N : News h₀ L s.heap news) (hm : (D, listOf vs.toArray n) ∈ news) (h0 : 0 ≤ k) (hk : k < 2 ^ 63) (hx : vs[k.toNat]? = some y) (h : Q y s)
    (hs : subscripted slice false (.ref D) (.int k u) = operate [.ref D, .int k u] (getItem (.ref D) (.int k u)) := by with_unfolding_all rfl) :
    wpAny (model prog w) A (subscriptTail value slice (.ref D) (.int k u)) Q E s := by
  have hl : s.heap.IsList D vs.toArray := ⟨_, (N _ hm).1, rfl, n, rfl⟩
  exact tail_any hl.typeIs slot_list_getitem.lookup (wpAny_getItem_list hl h0 hk (by simpa using hx) h) hs
end

/-! the pile's speller -/
def spLet (s0 s1 : Str) (x : Int) : List Nat := if x = 255 then s0.cps.toList else s1.cps.toList
def spSym (pl ql : List Int) (s0 s1 : Str) (x : Int) : List Nat := if x = 256 then pl.reverse.flatMap (spLet s0 s1) else if x = 257 then ql.reverse.flatMap (spLet s0 s1) else spLet s0 s1 x
def spWt (pl ql : List Int) (x : Int) : Nat := if x = 256 then 1 + pl.length else if x = 257 then 1 + ql.length else 1
def spSum (pl ql : List Int) (xs : List Int) : Nat := (xs.map (spWt pl ql)).sum
structure SpInv (pl ql : List Int) (s0 s1 : Str) (R : List Nat) (xs : List (Int × Tok)) (d : Str) : Prop where
  dom : ∀ x ∈ xs, x.1 = 254 ∨ x.1 = 255 ∨ x.1 = 256 ∨ x.1 = 257
  wt : spSum pl ql (xs.map (·.1)) ≤ 1000
  eq : d.cps.toList ++ (xs.map (·.1)).flatMap (spSym pl ql s0 s1) = R
theorem sp_len {pl ql : List Int} : ∀ xs : List Int, xs.length ≤ spSum pl ql xs
  | [] => Nat.zero_le _
  | x :: r => by
    have := sp_len (pl := pl) (ql := ql) r
    have hx : 1 ≤ spWt pl ql x := by unfold spWt; split <;> (try split) <;> omega
    simp only [spSum, List.map_cons, List.sum_cons, List.length_cons] at *
    omega
theorem sp_dlen {pl ql : List Int} {s0 s1 : Str} {R : List Nat} {xs : List (Int × Tok)} {d : Str} (H : SpInv pl ql s0 s1 R xs d) : d.length ≤ R.length := by
  have := congrArg List.length H.eq
  simp only [List.length_append, Array.length_toList] at this
  show d.cps.size ≤ _
  omega
section
variable {pl ql : List (Int × Tok)} {s0 s1 d : Str} {R : List Nat} {xs : List (Int × Tok)} {t : Tok}
abbrev fst1 (l : List (Int × Tok)) : List Int := l.map (·.1)
theorem sp_done (H : SpInv (fst1 pl) (fst1 ql) s0 s1 R [] d) : d = ⟨R.toArray⟩ := by
  refine Str.ext' ?_
  rw [← H.eq]; simp
theorem sp_let {x : Int} (hx : x = 254 ∨ x = 255) (H : SpInv (fst1 pl) (fst1 ql) s0 s1 R ((x, t) :: xs) d) (y : Str) (hy : y = if x = 255 then s0 else s1) : SpInv (fst1 pl) (fst1 ql) s0 s1 R xs (d ++ y) := by
  refine ⟨fun z hz => H.dom z (.tail _ hz), Nat.le_trans ?_ H.wt, ?_⟩
  · simp [spSum]
  · have h := H.eq
    simp only [List.map_cons, List.flatMap_cons] at h
    have e : spSym (fst1 pl) (fst1 ql) s0 s1 x = y.cps.toList := by
      rcases hx with rfl | rfl <;> (subst hy; simp [spSym, spLet])
    rw [e] at h
    rw [← h, Str.cps_append, Array.toList_append, List.append_assoc]
theorem sp_wt_let {x : Int} (hx : x = 254 ∨ x = 255) : spSum (fst1 pl) (fst1 ql) (fst1 xs) < spSum (fst1 pl) (fst1 ql) (fst1 ((x, t) :: xs)) := by
  rcases hx with rfl | rfl <;> simp [spSum, spWt]
theorem sp_wt_sub (ql' : List (Int × Tok)) (hq : ∀ x ∈ ql', x.1 = 254 ∨ x.1 = 255) : (List.map (spWt (fst1 pl) (fst1 ql)) (fst1 ql'.reverse)).sum = ql'.length := by
  have : ∀ l : List (Int × Tok), (∀ x ∈ l, x.1 = 254 ∨ x.1 = 255) → (List.map (spWt (fst1 pl) (fst1 ql)) (fst1 l)).sum = l.length := by
    intro l
    induction l with
    | nil => intro _; rfl
    | cons a r ih =>
      intro h
      have h1 := ih fun x hx => h x (.tail _ hx)
      have h2 : spWt (fst1 pl) (fst1 ql) a.1 = 1 := by
        rcases h a (.head _) with e | e <;> simp [spWt, e]
      simp only [fst1, List.map_cons, List.sum_cons, List.length_cons] at *
      omega
  rw [this ql'.reverse fun x hx => hq x (List.mem_reverse.mp hx)]; simp
theorem sp_flat_sub (ql' : List (Int × Tok)) (hq : ∀ x ∈ ql', x.1 = 254 ∨ x.1 = 255) : (fst1 ql'.reverse).flatMap (spSym (fst1 pl) (fst1 ql) s0 s1) = (fst1 ql').reverse.flatMap (spLet s0 s1) := by
  have e : fst1 ql'.reverse = (fst1 ql').reverse := by simp [fst1]
  rw [e]
  have : ∀ l : List Int, (∀ x ∈ l, x = 254 ∨ x = 255) → l.flatMap (spSym (fst1 pl) (fst1 ql) s0 s1) = l.flatMap (spLet s0 s1) := by
    intro l
    induction l with
    | nil => intro _; rfl
    | cons a r ih =>
      intro h
      rw [List.flatMap_cons, List.flatMap_cons, ih fun x hx => h x (.tail _ hx)]
      rcases h a (.head _) with e | e <;> simp [spSym, e]
  exact this _ fun x hx => by
    have hx' := List.mem_reverse.mp hx
    obtain ⟨p, hp, rfl⟩ := List.mem_map.mp hx'
    exact hq p hp
theorem sp_p (hp : ∀ x ∈ pl, x.1 = 254 ∨ x.1 = 255) (H : SpInv (fst1 pl) (fst1 ql) s0 s1 R ((256, t) :: xs) d) : SpInv (fst1 pl) (fst1 ql) s0 s1 R (pl.reverse ++ xs) d := by
  have hs := sp_wt_sub (pl := pl) (ql := ql) pl hp
  refine ⟨fun z hz => ?_, Nat.le_trans ?_ H.wt, ?_⟩
  · rcases List.mem_append.mp hz with h | h
    · rcases hp z (List.mem_reverse.mp h) with e | e <;> simp [e]
    · exact H.dom z (.tail _ h)
  · simp only [spSum, List.map_append, List.sum_append, List.map_cons, List.sum_cons, fst1] at *
    have : spWt (List.map (·.1) pl) (List.map (·.1) ql) 256 = 1 + pl.length := by simp [spWt]
    omega
  · have h := H.eq
    simp only [List.map_cons, List.flatMap_cons] at h
    rw [← h, List.map_append, List.flatMap_append]
    have := sp_flat_sub (pl := pl) (ql := ql) (s0 := s0) (s1 := s1) pl hp
    simp only [fst1] at this ⊢
    rw [this]; simp [spSym]
theorem sp_q (hq : ∀ x ∈ ql, x.1 = 254 ∨ x.1 = 255) (H : SpInv (fst1 pl) (fst1 ql) s0 s1 R ((257, t) :: xs) d) : SpInv (fst1 pl) (fst1 ql) s0 s1 R (ql.reverse ++ xs) d := by
  have hs := sp_wt_sub (pl := pl) (ql := ql) ql hq
  refine ⟨fun z hz => ?_, Nat.le_trans ?_ H.wt, ?_⟩
  · rcases List.mem_append.mp hz with h | h
    · rcases hq z (List.mem_reverse.mp h) with e | e <;> simp [e]
    · exact H.dom z (.tail _ h)
  · simp only [spSum, List.map_append, List.sum_append, List.map_cons, List.sum_cons, fst1] at *
    have : spWt (List.map (·.1) pl) (List.map (·.1) ql) 257 = 1 + ql.length := by simp [spWt]
    omega
  · have h := H.eq
    simp only [List.map_cons, List.flatMap_cons] at h
    rw [← h, List.map_append, List.flatMap_append]
    have := sp_flat_sub (pl := pl) (ql := ql) (s0 := s0) (s1 := s1) ql hq
    simp only [fst1] at this ⊢
    rw [this]; simp [spSym]
theorem sp_wt_p (hp : ∀ x ∈ pl, x.1 = 254 ∨ x.1 = 255) : spSum (fst1 pl) (fst1 ql) (fst1 (pl.reverse ++ xs)) < spSum (fst1 pl) (fst1 ql) (fst1 ((256, t) :: xs)) := by
  have hs := sp_wt_sub (pl := pl) (ql := ql) pl hp
  simp only [spSum, List.map_append, List.sum_append, List.map_cons, List.sum_cons, fst1] at *
  have : spWt (List.map (·.1) pl) (List.map (·.1) ql) 256 = 1 + pl.length := by simp [spWt]
  omega
theorem sp_wt_q (hq : ∀ x ∈ ql, x.1 = 254 ∨ x.1 = 255) : spSum (fst1 pl) (fst1 ql) (fst1 (ql.reverse ++ xs)) < spSum (fst1 pl) (fst1 ql) (fst1 ((257, t) :: xs)) := by
  have hs := sp_wt_sub (pl := pl) (ql := ql) ql hq
  simp only [spSum, List.map_append, List.sum_append, List.map_cons, List.sum_cons, fst1] at *
  have : spWt (List.map (·.1) pl) (List.map (·.1) ql) 257 = 1 + ql.length := by simp [spWt]
  omega
end
def SpJ (P : Addr) (z0 : Tok) (pl ql : List (Int × Tok)) (s0 s1 : Str) (R : List Nat) (rest : List (Addr × Obj)) (m₀ : Str → Option Value) (news : List (Addr × Obj)) (c : List (Int × Tok) × Str) (m : Str → Option Value) (nx : List (Addr × Obj)) : Prop :=
  ∃ (n : Nat) (u : Option Value) (td : Tok), nx = (P, listOf (iv ((0, z0) :: c.1.reverse)).toArray n) :: rest ∧ SpInv (fst1 pl) (fst1 ql) s0 s1 R c.1 c.2 ∧
    m = fun z => if z = Str.ofString "text" then some (.str c.2 td) else if z = Str.ofString "symbol" then u else m₀ z
theorem sp_end {P : Addr} {z0 : Tok} {pl ql : List (Int × Tok)} {s0 s1 : Str} {R : List Nat} {rest : List (Addr × Obj)} {h₀ : Heap} {L : Addr} {m₀ m' : Str → Option Value} {news : List (Addr × Obj)} {c c' : List (Int × Tok) × Str} {s₁ : Shared} {h' : Heap} {tk n : Nat} {td : Tok} {vs : List Value}
    (F : Fr h₀ L h' m') (N : News h₀ L h' ((P, listOf vs.toArray n) :: rest)) (hvs : vs = iv ((0, z0) :: c'.1.reverse)) (hI : SpInv (fst1 pl) (fst1 ql) s0 s1 R c'.1 c'.2)
    (hlt : spSum (fst1 pl) (fst1 ql) (fst1 c'.1) < spSum (fst1 pl) (fst1 ql) (fst1 c.1)) (hd : m' (Str.ofString "text") = some (.str c'.2 td))
    (ho : ∀ z, z ≠ Str.ofString "text" → z ≠ Str.ofString "symbol" → m' z = m₀ z) :
    WhEnd h₀ L (SpJ P z0 pl ql s0 s1 R rest m₀ news) (fun c => spSum (fst1 pl) (fst1 ql) (fst1 c.1)) c s₁ { s₁ with heap := h', toks := tk } :=
  .intro c' F N (fun _ h => h) hlt ⟨n, m' (Str.ofString "symbol"), td, by rw [hvs], hI, up2_of hd rfl ho⟩
theorem sp_news {h₀ h : Heap} {L P : Addr} {n : Nat} {z0 t : Tok} {x : Int} {ys : List (Int × Tok)} {rest : List (Addr × Obj)}
    (N : News h₀ L h ((P, listOf (iv ((0, z0) :: ((x, t) :: ys).reverse)).toArray n) :: rest)) : News h₀ L h ((P, listOf (iv ((0, z0) :: ys.reverse) ++ [Value.int x t]).toArray n) :: rest) := by
  have e : iv ((0, z0) :: ((x, t) :: ys).reverse) = iv ((0, z0) :: ys.reverse) ++ [Value.int x t] := by simp [iv]
  rw [e] at N; exact N
theorem sp_news0 {h₀ h : Heap} {L P : Addr} {n : Nat} {z0 : Tok} {rest : List (Addr × Obj)}
    (N : News h₀ L h ((P, listOf (iv ((0, z0) :: ([] : List (Int × Tok)).reverse)).toArray n) :: rest)) : News h₀ L h ((P, listOf ([] ++ [Value.int 0 z0]).toArray n) :: rest) := N
theorem sp_ilen {pl ql : List Int} {s0 s1 d : Str} {R : List Nat} {x : Int} {t z0 : Tok} {ys : List (Int × Tok)} (H : SpInv pl ql s0 s1 R ((x, t) :: ys) d) : (iv ((0, z0) :: ys.reverse)).length ≤ 1001 := by
  have h1 := H.wt
  have h2 := sp_len (pl := pl) (ql := ql) (((x, t) :: ys).map (·.1))
  rw [iv_len]
  simp only [List.length_map, List.length_cons, List.length_reverse] at *
  omega

/-! a contract of KE.KCallBy's form, used -/
theorem cb_use {prog : Program} {w : World} {K : Frag} {p : Program} {loose : List Str} {mean : ExcName → Option Value} {mg mb : Str → Option Value} {f : Addr} {news : List (Addr × Obj)} {pre : Prop} {vs : List Value} {R : Tok → Value}
    {dp un : Nat} {gd : Option (List Code)} {cn : Str} {cs : Scope} {a : Addr} {ccd : Value} {cl : List (Str × Addr)} {outer : List Env} {A₀ : Around} {base h₀ : Heap} {L : Addr} {m : Str → Option Value} {s : Shared} {Q E : Value → Shared → Prop}
    (C : CbClaim prog w K p loose mean mg mb f news [] pre vs R) (B : Below A₀ base outer h₀) (F : Fr h₀ L s.heap m) (X : K.In h₀) (N : News h₀ L s.heap news) (T : Top p loose mean mg mb h₀) (hk : cs.kind = .function)
    (hp : pre) (hd : dp + 1 < recursionLimit) (hu : un + 8 < cLine) (ret : ∀ (t : Tok) (h' : Heap) (tk' : Nat), Fr h₀ L h' m → News h₀ L h' news → Q (R t) { s with heap := h', toks := tk' }) :
    wpAny (model prog w) (ktrTop dp un gd cn cs L a ccd cl outer) (call (.ref f) vs) Q E s := C _ _ _ _ _ _ _ _ _ _ _ _ _ _ _ _ _ B F X N T hk hp hd hu ret
end Mine
end
section
open PySem PySem.W PyProof.Rows PySem.Calls
set_option linter.unusedVariables false
set_option maxRecDepth 100000
namespace Mine
open Builtin.Str
section
variable {prog : Program} {w : World} {A : Around} {E : Value → Shared → Prop} {s : Shared} {env : Env} {h₀ : Heap} {x : Str} {body : List Stmt} {Q : Flow → Shared → Prop}

def RgEnd (h₀ : Heap) (L : Addr) (J : (Str → Option Value) → List (Addr × Obj) → Prop) (I : Addr) (oI : Obj) (s₁ s₂ : Shared) : Prop :=
  ∃ h' tk m' nx, s₂ = { s₁ with heap := h', toks := tk } ∧ Fr h₀ L h' m' ∧ News h₀ L h' ((I, oI) :: nx) ∧ (∀ p ∈ nx, p.1 ≠ I) ∧ J m' nx
def RgPost (h₀ : Heap) (L : Addr) (J : (Str → Option Value) → List (Addr × Obj) → Prop) (I : Addr) (oI : Obj) (s₁ : Shared) (Q : Flow → Shared → Prop) (f : Flow) (s₂ : Shared) : Prop :=
  match f with
  | .ret v => Q (.ret v) s₂
  | .brk => Q .next s₂
  | _ => RgEnd h₀ L J I oI s₁ s₂
theorem RgEnd.intro {L : Addr} {J : (Str → Option Value) → List (Addr × Obj) → Prop} {I : Addr} {oI : Obj} {s₁ : Shared} {h' : Heap} {tk : Nat} {m' : Str → Option Value} {led nx : List (Addr × Obj)}
    (F : Fr h₀ L h' m') (N : News h₀ L h' led) (hs : ∀ p ∈ (I, oI) :: nx, p ∈ led) (hI : ∀ p ∈ nx, p.1 ≠ I) (hJ : J m' nx) : RgEnd h₀ L J I oI s₁ { s₁ with heap := h', toks := tk } :=
  ⟨h', tk, m', nx, rfl, F, fun p hp => N p (hs p hp), hI, hJ⟩

theorem iter_rng {r : Addr} {a₀ b₀ : Int} {t₀ u₀ v₀ : Tok} {n : Nat} {m₀ : Str → Option Value} {news : List (Addr × Obj)} (J : (Str → Option Value) → List (Addr × Obj) → Nat → (Str → Option Value) → List (Addr × Obj) → Prop)
    (hh : A.handled = none) (hr : IsRange s.heap r a₀ b₀ 1 t₀ u₀ v₀) (hsmall : Builtin.Range.small a₀ b₀ 1 = true) (hn : Builtin.Range.rangeSize a₀ b₀ 1 = (n : Int)) (F : Fr h₀ env.locals s.heap m₀) (N : News h₀ env.locals s.heap news) (hj : J m₀ news 0 m₀ news)
    (turn : ∀ i t m₁ news₁ h tk I oI, i < n → J m₀ news i m₁ news₁ → (∀ p ∈ news₁, p.1 ≠ I) → (∀ p ∈ news, p.1 < I) → Fr h₀ env.locals h (fun y => if y = x then some (.int (a₀ + (i : Int)) t) else m₁ y) → News h₀ env.locals h ((I, oI) :: news₁) →
      wpAny (model prog w) A (execs body env) (RgPost h₀ env.locals (J m₀ news (i + 1)) I oI { s with heap := h, toks := tk } Q) E { s with heap := h, toks := tk })
    (done : ∀ m₁ news₁ h tk, J m₀ news n m₁ news₁ → Fr h₀ env.locals h m₁ → News h₀ env.locals h news₁ → Q .next { s with heap := h, toks := tk }) :
    wpAny (model prog w) A (pyIter (.ref r)) (fun it s₂ => LoopAtV prog w A h₀ env x body Q E it s₂) E s := by
  have low : ∀ p ∈ news, p.1 < s.heap.objs.size := fun p hp => Heap.lt_size (N p hp).1
  refine wpAny_pyIter_range hr hsmall ?_
  have W := Walks.range (prog := prog) (w := w) hh s.heap.objs.size a₀ 1 n
  refine ⟨_, _, _, _, _, _, m₀, news, J m₀ news, rfl, W, ?_, ?_, ?_, by show IsRangeIter _ _ _ _ _; rw [hn]; simpa using Heap.get?_push_size _ rfl, F.push _, (fun p hp => ⟨Heap.get?_push_of_some _ (N p hp).1, (N p hp).2⟩), hj, ?_, ?_⟩
  · intro hm
    exact absurd F.ns.lt ((List.mem_singleton.mp hm) ▸ Nat.lt_irrefl _)
  · intro b hb
    rw [List.mem_singleton.mp hb]
    exact next_is_new F
  · intro p hp hI
    have := low p hp
    rw [List.mem_singleton.mp hI] at this
    exact Nat.lt_irrefl _ this
  · rintro i v m₁ news₁ s₁ own ⟨hh', tk', rfl⟩ hin ⟨t, rfl⟩ hJ hoff hown hget hfp hst F₁ N₁
    obtain ⟨oI, hoI⟩ : ∃ o, hh'.get? s.heap.objs.size = some o := ⟨_, hst⟩
    have hIo := hfp _ (by simp) (next_is_new F) oI hoI
    have hne : ∀ p ∈ news₁, p.1 ≠ s.heap.objs.size := fun p hp e => hoff p hp (by rw [e]; exact List.mem_singleton.mpr rfl)
    have N₂ : News h₀ env.locals hh' ((s.heap.objs.size, oI) :: news₁) := fun p hp => by
      rcases List.mem_cons.mp hp with rfl | hp
      · exact N₁ _ (List.mem_append.mpr (.inl hIo))
      · exact N₁ _ (List.mem_append.mpr (.inr hp))
    have e1 : a₀ + (i : Int) * 1 = a₀ + (i : Int) := by omega
    rw [e1] at F₁
    refine wpAny_mono (turn i t m₁ news₁ hh' tk' _ oI hin hJ hne low F₁ N₂) (fun f s₂ p => ?_) fun _ _ e => e
    have fin : RgEnd h₀ env.locals (J m₀ news (i + 1)) s.heap.objs.size oI { s with heap := hh', toks := tk' } s₂ →
        LoopStepU h₀ env.locals [s.heap.objs.size] own (J m₀ news (i + 1)) { s with heap := hh', toks := tk' } .next s₂ := by
      rintro ⟨h', tk, m', nx, e, F', N', hI', hJ'⟩
      refine ⟨rfl, h', tk, m', nx, e, F', fun p hp => ?_, fun p hp hw => hI' p hp (List.mem_singleton.mp hw), hJ'⟩
      rcases List.mem_append.mp hp with h | h
      · have hg := hget p h
        have h2 := List.mem_singleton.mp (hown p h)
        have : p = (s.heap.objs.size, oI) := Prod.ext h2 (by rw [h2, hoI] at hg; exact (Option.some.inj hg).symm)
        rw [this]; exact N' _ (.head _)
      · exact N' _ (.tail _ h)
    cases f with
    | ret v => exact .ret p
    | brk => exact .brk p
    | next => exact .next (fin p)
    | cont => exact .cont (fin p)
  · rintro h' tk m' news' F' N' _ hJ
    exact done m' news' h' tk hJ F' N'
end
theorem range_n {a b : Int} {n : Nat} (h : b - a = n) : Builtin.Range.rangeSize a b 1 = (n : Int) := by
  rw [rangeSize_one]; split <;> omega

/-! a loop over a written list whose turns store nothing -/
section
variable {prog : Program} {w : World} {A : Around} {E : Value → Shared → Prop} {s : Shared} {env : Env} {h₀ : Heap} {x : Str} {body : List Stmt} {Q : Flow → Shared → Prop}
def PureJ (x : Str) (m₀ : Str → Option Value) (news : List (Addr × Obj)) (m : Str → Option Value) (nx : List (Addr × Obj)) : Prop := nx = news ∧ ∃ u : Option Value, m = fun y => if y = x then u else m₀ y
theorem iter_pure {D : Addr} {vs : List Value} {nn : Nat} {m₀ : Str → Option Value} {news : List (Addr × Obj)}
    (hh : A.handled = none) (hl : (D, listOf vs.toArray nn) ∈ news) (F : Fr h₀ env.locals s.heap m₀) (N : News h₀ env.locals s.heap news)
    (turn : ∀ v ∈ vs, ∀ h tk I oI, (∀ p ∈ news, p.1 < I) → Fr h₀ env.locals h (fun y => if y = x then some v else m₀ y) → News h₀ env.locals h ((I, oI) :: news) →
      wpAny (model prog w) A (execs body env) (LedPost h₀ env.locals (PureJ x m₀ news) I oI (D, listOf vs.toArray nn) { s with heap := h, toks := tk } Q) E { s with heap := h, toks := tk })
    (done : ∀ u h tk, Fr h₀ env.locals h (fun y => if y = x then u else m₀ y) → News h₀ env.locals h news → Q .next { s with heap := h, toks := tk }) :
    wpAny (model prog w) A (pyIter (.ref D)) (fun it s₂ => LoopAtV prog w A h₀ env x body Q E it s₂) E s := by
  refine iter_led (fun _ => PureJ x m₀ news) hh hl F N ⟨rfl, m₀ x, up1_of rfl fun _ _ => rfl⟩ ?_ ?_
  · rintro i v m₁ news₁ h tk I oI hv hD hne low ⟨rfl, u, rfl⟩ F₁ N₁
    refine turn v (List.mem_of_getElem? hv) h tk I oI low ?_ N₁
    have e : (fun y => if y = x then some v else (fun y => if y = x then u else m₀ y) y) = fun y => if y = x then some v else m₀ y := by
      funext y
      by_cases h1 : y = x
      · rw [if_pos h1, if_pos h1]
      · rw [if_neg h1, if_neg h1]; dsimp only; rw [if_neg h1]
    rw [← e]; exact F₁
  · rintro m₁ news₁ h tk hD ⟨rfl, u, rfl⟩ F₁ N₁
    exact done u h tk F₁ N₁
theorem pure_end {I L : Addr} {oI : Obj} {pD : Addr × Obj} {m₀ m' : Str → Option Value} {news led : List (Addr × Obj)} {s₁ : Shared} {h' : Heap} {tk : Nat}
    (F : Fr h₀ L h' m') (N : News h₀ L h' led) (hs : ∀ p ∈ (I, oI) :: news, p ∈ led) (low : ∀ p ∈ news, p.1 < I) (hD : pD ∈ news) (ho : ∀ z, z ≠ x → m' z = m₀ z) :
    LedEnd h₀ L (PureJ x m₀ news) I oI pD s₁ { s₁ with heap := h', toks := tk } :=
  .intro F N hs (fun p hp => Nat.ne_of_lt (low p hp)) hD ⟨rfl, m' x, up1_of rfl ho⟩
end
end Mine
namespace Mine
section
variable {M : Model} {A : Around} {E : Value → Shared → Prop} {s : Shared} {h₀ : Heap} {L : Addr} {m : Str → Option Value} {news : List (Addr × Obj)}
def IntBack (h₀ : Heap) (L : Addr) (m : Str → Option Value) (news : List (Addr × Obj)) (s : Shared) (P : Int → Prop) (v : Value) (s' : Shared) : Prop :=
  ∃ c t h' tk, v = .int c t ∧ s' = { s with heap := h', toks := tk } ∧ Fr h₀ L h' m ∧ News h₀ L h' news ∧ P c
theorem IntBack.intro {P : Int → Prop} {c : Int} {t : Tok} {h' : Heap} {tk : Nat} {led : List (Addr × Obj)} (F : Fr h₀ L h' m) (N : News h₀ L h' led) (hs : ∀ p ∈ news, p ∈ led) (hP : P c) : IntBack h₀ L m news s P (.int c t) { s with heap := h', toks := tk } :=
  ⟨c, t, h', tk, rfl, rfl, F, fun p hp => N p (hs p hp), hP⟩
theorem int_join {t : Sem Value} {Q : Value → Shared → Prop} (P : Int → Prop) (_F : Fr h₀ L s.heap m) (_N : News h₀ L s.heap news) (h1 : wpAny M A t (IntBack h₀ L m news s P) E s)
    (h2 : ∀ c t h' tk, P c → Fr h₀ L h' m → News h₀ L h' news → Q (.int c t) { s with heap := h', toks := tk }) : wpAny M A t Q E s :=
  wpAny_mono h1 (fun _ _ ⟨c, t, h', tk, e1, e2, F', N', hP⟩ => by subst e1 e2; exact h2 c t h' tk hP F' N') fun _ _ x => x
end
end Mine
end
section
open PySem PySem.W PyProof.Rows PySem.Calls
set_option linter.unusedVariables false
set_option maxRecDepth 100000
namespace Mine
open Builtin.Str StrLaws
abbrev tl (x : Str) : List Nat := x.cps.toList
theorem tl_len (x : Str) : (tl x).length = x.length := by simp [Str.length]
theorem tl_app (x y : Str) : tl (x ++ y) = tl x ++ tl y := by simp [tl, Str.cps_append]
theorem tl_inj {x y : Str} (h : tl x = tl y) : x = y := Str.ext' (Array.toList_inj.mp h)
theorem tl_dots : tl (Str.ofString "...") = [46, 46, 46] := by decide +kernel
theorem str_beq (x y : Str) : (x == y) = decide (tl x = tl y) := by
  rw [Bool.eq_iff_iff, beq_iff_eq, decide_eq_true_eq]
  exact ⟨fun h => by rw [h], tl_inj⟩
theorem at_iff {g w : Str} {hi i : Nat} : At g w hi i ↔ i + w.length ≤ hi ∧ ((tl g).drop i).take w.length = tl w := by
  unfold At
  rw [subAt_eq]
  simp
theorem occ1_spec (g w : Str) (st en : Nat) : (occurrences g w st en 1 = [] ∧ ∀ i, st ≤ i → ¬ At g w en i) ∨
    ∃ i r, occurrences g w st en 1 = i :: r ∧ st ≤ i ∧ At g w en i ∧ ∀ k, st ≤ k → k < i → ¬ At g w en k := by
  rw [occ_eq]
  rcases occ_first g w en 1 (Nat.le_refl _) (List.range' st (en + 1 - st)) st (fun i hi => by have := List.mem_range'_1.mp hi; omega) with ⟨h0, hn⟩ | ⟨pre, a, post, e, h0, ha, hn⟩
  · refine .inl ⟨by rw [h0], fun i hlo hi => ?_⟩
    exact hn i (by have := hi.1; rw [List.mem_range'_1]; omega) hi
  · have hs := range'_split_from e
    generalize harr : (forIn (List.range' st (en + 1 - st)) ((#[] : Array Nat), st) (occBody g w en 1)).run.fst = arr at h0
    have h1 : arr.toList[0]? = some a := by simpa using h0
    cases hL : arr.toList with
    | nil => rw [hL] at h1; cases h1
    | cons b t =>
      rw [hL] at h1
      have hb : b = a := by simpa using h1
      exact .inr ⟨a, t, by rw [hb], hs.1, ha, fun k hk0 hk => hn k (hs.2 k hk0 hk)⟩
/-- the first place -/
theorem occ1_cons {g w : Str} {st en i : Nat} (h1 : st ≤ i) (h2 : At g w en i) (h3 : ∀ k, st ≤ k → k < i → ¬ At g w en k) : ∃ r, occurrences g w st en 1 = i :: r := by
  rcases occ1_spec g w st en with ⟨_, hn⟩ | ⟨j, r, e, hj, ha, hm⟩
  · exact absurd h2 (hn i h1)
  · have : j = i := by
      rcases Nat.lt_trichotomy j i with h | h | h
      · exact absurd ha (h3 j hj h)
      · exact h
      · exact absurd h2 (hm i h1 h)
    exact ⟨r, this ▸ e⟩
theorem occ1_nil {g w : Str} {st en : Nat} (h : ∀ i, st ≤ i → ¬ At g w en i) : occurrences g w st en 1 = [] := by
  rcases occ1_spec g w st en with ⟨e, _⟩ | ⟨j, r, e, hj, ha, hm⟩
  · exact e
  · exact absurd ha (h j hj)

/-! no dots, no dots' place -/
theorem no_dots {x : Str} (h : 46 ∉ tl x) (hi i : Nat) : ¬ At x (Str.ofString "...") hi i := by
  rw [at_iff, tl_dots]
  rintro ⟨_, e⟩
  apply h
  have : (46 : Nat) ∈ ((tl x).drop i).take (Str.ofString "...").length := by rw [e]; simp
  exact List.mem_of_mem_drop (List.mem_of_mem_take this)
theorem ell_plain {want got : Str} (h : 46 ∉ tl want) : ellM want got = decide (tl want = tl got) := by
  rw [← ell_no (by rw [occ1_nil fun i _ => no_dots h _ i]; rfl), str_beq]

/-! the split of what was joined -/
def joinD : List (List Nat) → List Nat
  | [] => []
  | [p] => p
  | p :: q :: r => p ++ [46, 46, 46] ++ joinD (q :: r)
theorem tl_join (ps : List Str) : tl (Str.join (Str.ofString "...") ps) = joinD (ps.map tl) := by
  induction ps with
  | nil => rfl
  | cons p r ih =>
    cases r with
    | nil => rfl
    | cons q r =>
      show tl (p ++ Str.ofString "..." ++ Str.join (Str.ofString "...") (q :: r)) = _
      rw [tl_app, tl_app, ih, tl_dots]; rfl
theorem drop_at {l : List Nat} {a k : Nat} {p q : List Nat} (h : l.drop a = p ++ q) (hk : k ≤ p.length) : l.drop (a + k) = p.drop k ++ q := by
  rw [← List.drop_drop, h, List.drop_append_of_le_length hk]
theorem chain_parts {x : Str} : ∀ (ps : List (List Nat)) (a f : Nat) (cuts : List Nat), ps ≠ [] → (∀ p ∈ ps, 46 ∉ p) → a ≤ x.length → (tl x).drop a = joinD ps →
    ChainG x (Str.ofString "...") x.length a cuts f → (∀ k, f ≤ k → ¬ At x (Str.ofString "...") x.length k) → (partsFrom x 3 a cuts).map tl = ps
  | [], _, _, _, h, _, _, _, _, _ => absurd rfl h
  | [p], a, f, cuts, _, hp, ha, e, hc, hn => by
    have e' : (tl x).drop a = p := e
    have none : ∀ k, a ≤ k → ¬ At x (Str.ofString "...") x.length k := by
      intro k hk hA
      rw [at_iff, tl_dots] at hA
      apply hp p (.head _)
      rw [← e']
      have h1 : (46 : Nat) ∈ ((tl x).drop k).take (Str.ofString "...").length := by rw [hA.2]; simp
      have h2 := List.mem_of_mem_take h1
      have h3 : (tl x).drop k = ((tl x).drop a).drop (k - a) := by rw [List.drop_drop]; congr 1; omega
      rw [h3] at h2
      exact List.mem_of_mem_drop h2
    cases cuts with
    | nil =>
      show [tl (strSub x a x.length)] = [p]
      have h1 : x.length - a = ((tl x).drop a).length := by rw [List.length_drop, tl_len]
      have : tl (strSub x a x.length) = p := by
        show (strSub x a x.length).cps.toList = p
        rw [strSub_toList, h1, List.take_length]; exact e'
      rw [this]
    | cons c r => exact absurd hc.2.1 (none c hc.1)
  | p :: q :: r, a, f, cuts, _, hp, ha, e, hc, hn => by
    have e' : (tl x).drop a = p ++ ([46, 46, 46] ++ joinD (q :: r)) := by rw [e]; simp [joinD]
    have hlen : (tl x).length - a = p.length + (3 + (joinD (q :: r)).length) := by
      have := congrArg List.length e'
      simp only [List.length_drop, List.length_append, List.length_cons, List.length_nil] at this
      omega
    have hx := tl_len x
    have d3 : (Str.ofString "...").length = 3 := by decide +kernel
    have hat : At x (Str.ofString "...") x.length (a + p.length) := by
      rw [at_iff, d3, tl_dots]
      refine ⟨by omega, ?_⟩
      rw [drop_at e' (Nat.le_refl _)]; simp
    have before : ∀ k, a ≤ k → k < a + p.length → ¬ At x (Str.ofString "...") x.length k := by
      intro k hk hlt hA
      rw [at_iff, tl_dots] at hA
      have h1 := drop_at (k := k - a) e' (by omega)
      rw [show a + (k - a) = k from by omega] at h1
      have hne : p.drop (k - a) ≠ [] := by
        intro h0
        have := List.drop_eq_nil_iff.mp h0
        omega
      obtain ⟨b, t, hb⟩ := List.exists_cons_of_ne_nil hne
      rw [h1, hb, d3] at hA
      have h2 : b = 46 := by
        have := hA.2
        simp at this
        exact this.1
      apply hp p (.head _)
      have : b ∈ p.drop (k - a) := by rw [hb]; exact .head _
      rw [h2] at this
      exact List.mem_of_mem_drop this
    cases cuts with
    | nil =>
      have hf : f = a := hc
      exact absurd hat (hn _ (by omega))
    | cons c cs =>
      have hceq : c = a + p.length := by
        rcases Nat.lt_trichotomy c (a + p.length) with h | h | h
        · exact absurd hc.2.1 (before c hc.1 h)
        · exact h
        · exact absurd hat (hc.2.2.1 _ (by omega) h)
      have hrest := hc.2.2.2
      rw [d3] at hrest
      have ih := chain_parts (q :: r) (c + 3) f cs (by simp) (fun z hz => hp z (.tail _ hz)) (by omega) (by
        rw [hceq]
        have : a + p.length + 3 = a + (p.length + 3) := by omega
        rw [this, ← List.drop_drop, e']
        simp [← List.drop_drop]) hrest hn
      show tl (strSub x a c) :: (partsFrom x 3 (c + 3) cs).map tl = _
      rw [ih]
      congr 1
      show (strSub x a c).cps.toList = p
      rw [strSub_toList, hceq, show a + p.length - a = p.length from by omega]
      show ((tl x).drop a).take p.length = p
      rw [e']; simp
theorem split_join {x : Str} {ps : List (List Nat)} (h2 : 2 ≤ ps.length) (hp : ∀ p ∈ ps, 46 ∉ p) (e : tl x = joinD ps) :
    (occurrences x (Str.ofString "...") 0 x.length 1).isEmpty = false ∧ (Txt.split x (Str.ofString "...")).map tl = ps := by
  have d3 : (Str.ofString "...").length = 3 := by decide +kernel
  obtain ⟨p, q, r, rfl⟩ : ∃ p q r, ps = p :: q :: r := by
    match ps, h2 with
    | p :: q :: r, _ => exact ⟨p, q, r, rfl⟩
  have e' : tl x = p ++ ([46, 46, 46] ++ joinD (q :: r)) := by rw [e]; simp [joinD]
  have hx := tl_len x
  have hlen := congrArg List.length e'
  simp only [List.length_append, List.length_cons, List.length_nil] at hlen
  have hat : At x (Str.ofString "...") x.length p.length := by
    rw [at_iff, d3, tl_dots]
    refine ⟨by omega, ?_⟩
    rw [e']; simp
  obtain ⟨f, hc, hn⟩ := occ_tight x (Str.ofString "...") (by rw [d3]; omega)
  have hparts := chain_parts (p :: q :: r) 0 f _ (by simp) hp (Nat.zero_le _) (by simpa using e) hc hn
  have hne : (occurrences x (Str.ofString "...") 0 x.length (x.length + 1)) ≠ [] := by
    intro h0
    rw [h0] at hparts
    simp [partsFrom] at hparts
  constructor
  · rcases occ1_spec x (Str.ofString "...") 0 x.length with ⟨_, h0⟩ | ⟨i, r, h0, _⟩
    · exact absurd hat (h0 _ (Nat.zero_le _))
    · rw [h0]; rfl
  · unfold Txt.split
    have hk := kind_le x (Str.ofString "...") hat.2
    rw [if_neg (by simp; exact ⟨by omega, hk⟩), if_neg (by simpa using hne), partsBetween_eq, d3]
    exact hparts

/-! the matcher's answer on parts without dots -/
theorem ell_parts {want got : Str} {ps : List (List Nat)} (h2 : 2 ≤ ps.length) (hp : ∀ p ∈ ps, 46 ∉ p) (e : tl want = joinD ps) :
    ∃ ws : List Str, ws.map tl = ps ∧ ellM want got = ellB got ws := by
  obtain ⟨h, hs⟩ := split_join h2 hp e
  refine ⟨_, hs, ?_⟩
  unfold ellM
  rw [if_neg (by rw [h]; exact Bool.false_ne_true)]
theorem starts_eq (g w : Str) : Txt.startswith g w = decide ((tl g).take w.length = tl w) := by
  unfold Txt.startswith
  rw [subAt_eq, Bool.eq_iff_iff]
  simp only [Bool.and_eq_true, decide_eq_true_eq, beq_iff_eq, List.drop_zero]
  constructor
  · exact fun h => h.2
  · intro h
    refine ⟨?_, h⟩
    have := congrArg List.length h
    simp only [List.length_take, tl_len] at this
    omega
theorem ends_eq {g w : Str} (hw : w.length ≤ g.length) : Txt.endswith g w = decide ((tl g).drop (g.length - w.length) = tl w) := by
  unfold Txt.endswith
  rw [subAt_eq, Bool.eq_iff_iff]
  simp only [Bool.and_eq_true, decide_eq_true_eq, beq_iff_eq]
  have : (List.drop (g.length - w.length) (tl g)).take w.length = List.drop (g.length - w.length) (tl g) := by
    apply List.take_of_length_le
    rw [List.length_drop, tl_len]; omega
  rw [this]
  exact ⟨fun h => h.2, fun h => ⟨by omega, h⟩⟩
theorem ends_long {g w : Str} (hw : g.length < w.length) : Txt.endswith g w = false := by
  unfold Txt.endswith
  have h1 : ¬ (0 + w.length ≤ g.length) := by omega
  rw [decide_eq_false h1, Bool.false_and]

def rep (k : Nat) (w : List Nat) : List Nat := (List.replicate k w).flatten
theorem rep_succ (k : Nat) (w : List Nat) : rep (k + 1) w = w ++ rep k w := by simp [rep, List.replicate_succ]
theorem rep_len (k : Nat) (w : List Nat) : (rep k w).length = k * w.length := by
  induction k with
  | zero => simp [rep]
  | succ k ih => rw [rep_succ, List.length_append, ih, Nat.succ_mul]; omega
theorem rep_add (a b : Nat) (w : List Nat) : rep (a + b) w = rep a w ++ rep b w := by
  induction a with
  | zero => simp [rep]
  | succ a ih => rw [show a + 1 + b = (a + b) + 1 from by omega, rep_succ, rep_succ, ih, List.append_assoc]
theorem rep_one (w : List Nat) : rep 1 w = w := by simp [rep]

theorem take_take_drop {l : List Nat} {a b : Nat} : l.take (a + b) = l.take a ++ (l.drop a).take b := by rw [List.take_add]

theorem loop_short {got : Str} {w : Str} : ∀ (ws : List Str) (st en : Nat), (∀ x ∈ ws, x = w) → ws ≠ [] → en < st + ws.length * w.length → elLoop got ws st en = false
  | [], _, _, _, h, _ => absurd rfl h
  | x :: ws, st, en, hx, _, hlt => by
    have hxw := hx x (.head _)
    subst hxw
    unfold elLoop
    rcases occ1_spec got x st en with ⟨e, _⟩ | ⟨i, r, e, hi, ha, _⟩
    · rw [e]
    · rw [e]
      dsimp only
      have := (at_iff.mp ha).1
      rw [List.length_cons, Nat.succ_mul] at hlt
      cases ws with
      | nil => simp at hlt; omega
      | cons y ws => exact loop_short (y :: ws) _ _ (fun z hz => hx z (.tail _ hz)) (by simp) (by omega)
theorem loop_tight {got : Str} {w : Str} (hw : 1 ≤ w.length) : ∀ (ws : List Str) (st en : Nat), (∀ x ∈ ws, x = w) → en = st + ws.length * w.length → en ≤ got.length →
    elLoop got ws st en = decide (((tl got).drop st).take (ws.length * w.length) = rep ws.length (tl w))
  | [], st, en, _, _, _ => by simp [elLoop, rep]
  | x :: ws, st, en, hx, he, hg => by
    have hxw := hx x (.head _)
    subst hxw
    rw [List.length_cons, Nat.succ_mul] at he
    have hk : (ws.length + 1) * x.length = x.length + ws.length * x.length := by rw [Nat.succ_mul]; omega
    rw [List.length_cons, hk, take_take_drop, rep_succ, List.drop_drop]
    by_cases h : ((tl got).drop st).take x.length = tl x
    · obtain ⟨r, e⟩ := occ1_cons (g := got) (w := x) (st := st) (en := en) (i := st) (Nat.le_refl _) (at_iff.mpr ⟨by omega, h⟩) (fun k h1 h2 => by omega)
      have : elLoop got (x :: ws) st en = elLoop got ws (st + x.length) en := by simp only [elLoop, e]
      rw [this, loop_tight hw ws (st + x.length) en (fun z hz => hx z (.tail _ hz)) (by omega) hg, h]
      simp
    · have hne : ¬ (List.take x.length (List.drop st (tl got)) ++ List.take (ws.length * x.length) (List.drop (st + x.length) (tl got)) = tl x ++ rep ws.length (tl x)) := by
        intro hc
        apply h
        have hl : (List.take x.length (List.drop st (tl got))).length = (tl x).length := by
          rw [List.length_take, List.length_drop, tl_len, tl_len]; omega
        exact (List.append_inj hc hl).1
      rw [decide_eq_false hne]
      unfold elLoop
      rcases occ1_spec got x st en with ⟨e, _⟩ | ⟨i, r, e, hi, ha, _⟩
      · rw [e]
      · rw [e]
        dsimp only
        have h1 := at_iff.mp ha
        have : st < i := by
          rcases Nat.lt_or_ge st i with h2 | h2
          · exact h2
          · have : i = st := by omega
            rw [this] at h1; exact absurd h1.2 h
        cases ws with
        | nil => simp at he; omega
        | cons y ws => exact loop_short (w := x) (y :: ws) _ _ (fun z hz => hx z (.tail _ hz)) (by simp) (by omega)
theorem getD_last {ws : List Str} {w : Str} (h : ws.getLast? = some w) : ws.getD (-1 + (ws.length : Int)).toNat Str.empty = w := by
  have hn : ws ≠ [] := by intro h0; rw [h0] at h; cases h
  have hl : 0 < ws.length := List.length_pos_iff.mpr hn
  have : (-1 + (ws.length : Int)).toNat = ws.length - 1 := by omega
  rw [this, List.getD_eq_getElem?_getD, ← List.getLast?_eq_getElem?, h]; rfl

/-- (A) taken by its k-th part, so often -/
theorem ell_rep {want got w : Str} {c : Nat} (hc : 2 ≤ c) (hw : 1 ≤ w.length) (hd : 46 ∉ tl w) (hg : got.length = c * w.length) (e : tl want = joinD (List.replicate c (tl w))) :
    ellM want got = decide (tl got = rep c (tl w)) := by
  obtain ⟨ws, hws, hm⟩ := ell_parts (got := got) (ps := List.replicate c (tl w)) (by simpa using hc) (fun p hp => by rw [List.eq_of_mem_replicate hp]; exact hd) e
  have hw' : ws = List.replicate c w := by
    have hl : ws.length = c := by have := congrArg List.length hws; simpa using this
    rw [List.eq_replicate_iff]
    refine ⟨hl, fun x hx => tl_inj ?_⟩
    have : tl x ∈ ws.map tl := List.mem_map.mpr ⟨x, hx, rfl⟩
    rw [hws] at this
    exact List.eq_of_mem_replicate this
  obtain ⟨k, rfl⟩ : ∃ k, c = k + 2 := ⟨c - 2, by omega⟩
  have hmul : (k + 2) * w.length = w.length + (k * w.length + w.length) := by rw [Nat.add_mul]; omega
  rw [hm, hw']
  have h0 : (List.replicate (k + 2) w).getD 0 Str.empty = w := by simp [List.replicate_succ]
  have hdrop : (List.replicate (k + 2) w).drop 1 = List.replicate (k + 1) w := by rw [List.drop_replicate]; rfl
  unfold ellB
  rw [h0, if_neg (by omega), starts_eq, hdrop]
  have hlast : (List.replicate (k + 1) w).getD (-1 + ((List.replicate (k + 1) w).length : Int)).toNat Str.empty = w := getD_last (by rw [List.getLast?_replicate]; rfl)
  have hdl : (List.replicate (k + 1) w).dropLast = List.replicate k w := by rw [List.dropLast_replicate]; rfl
  have hsplit : tl got = (tl got).take w.length ++ (((tl got).drop w.length).take (k * w.length) ++ (tl got).drop (w.length + k * w.length)) := by
    rw [← List.drop_drop, List.take_append_drop, List.take_append_drop]
  have hgl := tl_len got
  have hwl := tl_len w
  have hrep : rep (k + 2) (tl w) = tl w ++ (rep k (tl w) ++ tl w) := by
    rw [show k + 2 = 1 + (k + 1) from by omega, rep_add, rep_one, rep_add, rep_one]
  have hiff : tl got = rep (k + 2) (tl w) ↔ (tl got).take w.length = tl w ∧ ((tl got).drop w.length).take (k * w.length) = rep k (tl w) ∧ (tl got).drop (w.length + k * w.length) = tl w := by
    constructor
    · intro h
      have l1 : ((tl got).take w.length).length = (tl w).length := by rw [List.length_take, tl_len]; omega
      have l2 : (((tl got).drop w.length).take (k * w.length)).length = (rep k (tl w)).length := by rw [List.length_take, List.length_drop, rep_len, tl_len, tl_len]; omega
      rw [hrep] at h
      rw [hsplit] at h
      obtain ⟨a, b⟩ := List.append_inj h l1
      obtain ⟨b1, b2⟩ := List.append_inj b l2
      exact ⟨a, b1, b2⟩
    · rintro ⟨a, b, c⟩
      rw [hsplit, a, b, c, hrep]
  rw [show decide (tl got = rep (k + 2) (tl w)) = (decide ((tl got).take w.length = tl w) && (decide (((tl got).drop w.length).take (k * w.length) = rep k (tl w)) && decide ((tl got).drop (w.length + k * w.length) = tl w))) from by
    rw [Bool.eq_iff_iff]; simp only [decide_eq_true_eq, Bool.and_eq_true]; exact hiff]
  by_cases hst : (tl got).take w.length = tl w
  · rw [decide_eq_true hst, if_pos rfl, Bool.true_and]
    unfold ellTail
    rw [hlast, if_neg (by omega), ends_eq (by omega), hdl]
    have e1 : got.length - w.length = w.length + k * w.length := by omega
    rw [e1]
    by_cases hen : (tl got).drop (w.length + k * w.length) = tl w
    · rw [decide_eq_true hen, if_pos rfl, Bool.and_true, if_neg (by omega)]
      have e2 : ((got.length : Int) - (w.length : Int)).toNat = w.length + k * w.length := by omega
      have e3 : ((w.length : Nat) : Int).toNat = w.length := by omega
      rw [e2, e3, loop_tight hw (List.replicate k w) _ _ (fun x hx => List.eq_of_mem_replicate hx) (by simp) (by omega)]
      simp
    · rw [decide_eq_false hen, Bool.and_false]; rfl
  · rw [decide_eq_false hst, Bool.false_and]; rfl

theorem len0_tl {x : Str} (h : x.length = 0) : tl x = [] := by
  have := tl_len x; rw [h] at this; exact List.eq_nil_of_length_eq_zero this
theorem at_empty {g e : Str} (he : e.length = 0) {hi i : Nat} (h : i ≤ hi) : At g e hi i := by
  rw [at_iff, he, len0_tl he]; exact ⟨by omega, by simp⟩
theorem loop_empty {g e : Str} (he : e.length = 0) {ws : List Str} {st en : Nat} (h : st ≤ en) : elLoop g (e :: ws) st en = elLoop g ws st en := by
  obtain ⟨r, e1⟩ := occ1_cons (g := g) (w := e) (st := st) (en := en) (i := st) (Nat.le_refl _) (at_empty he h) (fun k h1 h2 => by omega)
  simp only [elLoop, e1, he, Nat.add_zero]
/-- two parts -/
theorem ell_two {want got : Str} {u v : List Nat} (hu : 46 ∉ u) (hv : 46 ∉ v) (e : tl want = u ++ [46, 46, 46] ++ v) :
    ellM want got = decide (u.length + v.length ≤ got.length ∧ (tl got).take u.length = u ∧ (tl got).drop (got.length - v.length) = v) := by
  obtain ⟨ws, hws, hm⟩ := ell_parts (got := got) (ps := [u, v]) (by simp) (fun p hp => by
    rcases List.mem_cons.mp hp with rfl | hp
    · exact hu
    · rw [List.mem_singleton.mp hp]; exact hv) e
  obtain ⟨a, b, rfl⟩ : ∃ a b, ws = [a, b] := by
    match ws, congrArg List.length hws with
    | [a, b], _ => exact ⟨a, b, rfl⟩
  obtain ⟨ha, hb⟩ : tl a = u ∧ tl b = v := by simpa using hws
  subst ha hb
  have hgl := tl_len got
  rw [hm, tl_len, tl_len]
  unfold ellB
  have h0 : [a, b].getD 0 Str.empty = a := rfl
  have hl2 : [a, b].getD (-1 + ([a, b].length : Int)).toNat Str.empty = b := rfl
  have hl1 : [b].getD (-1 + ([b].length : Int)).toNat Str.empty = b := rfl
  rw [h0]
  by_cases hA : a.length = 0
  · rw [if_pos hA]
    unfold ellTail
    rw [hl2]
    by_cases hB : b.length = 0
    · rw [if_pos hB, if_neg (by omega), loop_empty hA (by omega), loop_empty hB (by omega)]
      simp only [elLoop]
      symm; rw [decide_eq_true_eq, hA, hB, len0_tl hA, len0_tl hB]
      exact ⟨by omega, by simp, by simp [hgl]⟩
    · rw [if_neg hB]
      by_cases hlong : got.length < b.length
      · rw [ends_long hlong]
        symm; simp only [Bool.false_eq_true, if_false]
        rw [decide_eq_false_iff_not]; intro h; omega
      · rw [ends_eq (by omega)]
        by_cases hE : (tl got).drop (got.length - b.length) = tl b
        · rw [decide_eq_true hE, if_pos rfl, if_neg (by omega)]
          show elLoop got [a] _ _ = _
          rw [loop_empty hA (by omega)]
          simp only [elLoop]
          symm; rw [decide_eq_true_eq, hA, len0_tl hA]
          exact ⟨by omega, by simp, hE⟩
        · rw [decide_eq_false hE]
          symm; simp only [Bool.false_eq_true, if_false]
          rw [decide_eq_false_iff_not]; intro h; exact hE h.2.2
  · rw [if_neg hA, starts_eq]
    by_cases hS : (tl got).take a.length = tl a
    · have hal : a.length ≤ got.length := by
        have := congrArg List.length hS
        rw [List.length_take, tl_len, tl_len] at this; omega
      rw [decide_eq_true hS, if_pos rfl]
      show ellTail got [b] _ = _
      unfold ellTail
      rw [hl1]
      by_cases hB : b.length = 0
      · rw [if_pos hB, if_neg (by omega), loop_empty hB (by omega)]
        simp only [elLoop]
        symm; rw [decide_eq_true_eq, hB, len0_tl hB]
        exact ⟨by omega, hS, by simp [hgl]⟩
      · rw [if_neg hB]
        by_cases hlong : got.length < b.length
        · rw [ends_long hlong]
          symm; simp only [Bool.false_eq_true, if_false]
          rw [decide_eq_false_iff_not]; intro h; omega
        · rw [ends_eq (by omega)]
          by_cases hE : (tl got).drop (got.length - b.length) = tl b
          · rw [decide_eq_true hE, if_pos rfl]
            by_cases hg : (got.length : Int) - (b.length : Int) < (a.length : Int)
            · rw [if_pos hg]
              symm; rw [decide_eq_false_iff_not]; intro h; omega
            · rw [if_neg hg]
              show elLoop got [] _ _ = _
              simp only [elLoop]
              symm; rw [decide_eq_true_eq]
              exact ⟨by omega, hS, hE⟩
          · rw [decide_eq_false hE]
            symm; simp only [Bool.false_eq_true, if_false]
            rw [decide_eq_false_iff_not]; intro h; exact hE h.2.2
    · rw [decide_eq_false hS]
      symm; simp only [Bool.false_eq_true, if_false]
      rw [decide_eq_false_iff_not]; intro h; exact hS h.2.1
/-- dots ahead and behind: it stands in it -/
theorem ell_in {want got t : Str} (ht : 46 ∉ tl t) (e : tl want = [46, 46, 46] ++ tl t ++ [46, 46, 46]) :
    ellM want got = true ↔ ∃ i, i + t.length ≤ got.length ∧ ((tl got).drop i).take t.length = tl t := by
  obtain ⟨ws, hws, hm⟩ := ell_parts (got := got) (ps := [[], tl t, []]) (by simp) (fun p hp => by
    rcases List.mem_cons.mp hp with rfl | hp
    · simp
    · rcases List.mem_cons.mp hp with rfl | hp
      · exact ht
      · rw [List.mem_singleton.mp hp]; simp) (by rw [e]; simp [joinD])
  obtain ⟨a, b, c, rfl⟩ : ∃ a b c, ws = [a, b, c] := by
    match ws, congrArg List.length hws with
    | [a, b, c], _ => exact ⟨a, b, c, rfl⟩
  obtain ⟨ha, hb, hc⟩ : tl a = [] ∧ tl b = tl t ∧ tl c = [] := by simpa using hws
  have hbt := tl_inj hb
  subst hbt
  have hA : a.length = 0 := by rw [← tl_len, ha]; rfl
  have hC : c.length = 0 := by rw [← tl_len, hc]; rfl
  rw [hm]
  unfold ellB
  have h0 : [a, b, c].getD 0 Str.empty = a := rfl
  have hl3 : [a, b, c].getD (-1 + ([a, b, c].length : Int)).toNat Str.empty = c := rfl
  rw [h0, if_pos hA]
  unfold ellTail
  rw [hl3, if_pos hC, if_neg (by omega), loop_empty hA (by omega)]
  have e0 : ((0 : Int)).toNat = 0 := rfl
  have e1 : ((got.length : Nat) : Int).toNat = got.length := by omega
  rw [e0, e1]
  rcases occ1_spec got b 0 got.length with ⟨eo, hn⟩ | ⟨i, r, eo, hi, ha', _⟩
  · have : elLoop got [b, c] 0 got.length = false := by simp only [elLoop, eo]
    rw [this]
    constructor
    · intro h; cases h
    · rintro ⟨i, h1, h2⟩
      exact absurd (at_iff.mpr ⟨h1, h2⟩) (hn i (Nat.zero_le _))
  · have h1 := at_iff.mp ha'
    have : elLoop got [b, c] 0 got.length = true := by
      have h2 : elLoop got [b, c] 0 got.length = elLoop got [c] (i + b.length) got.length := by rw [elLoop]; rw [eo]
      rw [h2, loop_empty hC h1.1]; rfl
    rw [this]
    exact ⟨fun _ => ⟨i, h1⟩, fun _ => rfl⟩
end Mine
end
section
open PySem PySem.W PyProof.Rows PySem.Calls
set_option linter.unusedVariables false
set_option maxRecDepth 100000
namespace Mine
open Builtin.Str StrLaws
def powAt (l : List Nat) (k : Nat) : Bool := l.length % (k + 2) == 0 && decide (l = rep (k + 2) (l.take (l.length / (k + 2))))
def isPow (l : List Nat) : Bool := (List.range (l.length - 1)).any (powAt l)
theorem isPow_iff {l : List Nat} : isPow l = true ↔ ∃ c w, 2 ≤ c ∧ w ≠ [] ∧ l = rep c w := by
  unfold isPow
  rw [List.any_eq_true]
  constructor
  · rintro ⟨k, hk, h⟩
    simp only [powAt, Bool.and_eq_true, beq_iff_eq, decide_eq_true_eq] at h
    have hk' := List.mem_range.mp hk
    refine ⟨k + 2, l.take (l.length / (k + 2)), by omega, ?_, h.2⟩
    intro h0
    have h1 := congrArg List.length h0
    rw [List.length_take] at h1
    have h2 : 1 ≤ l.length / (k + 2) := Nat.div_pos (by omega) (by omega)
    simp only [List.length_nil] at h1
    omega
  · rintro ⟨c, w, hc, hw, rfl⟩
    have hp := List.length_pos_iff.mpr hw
    have hl := rep_len c w
    have hcl : c ≤ c * w.length := Nat.le_mul_of_pos_right c hp
    refine ⟨c - 2, List.mem_range.mpr (by omega), ?_⟩
    have e : c - 2 + 2 = c := by omega
    simp only [powAt, e, hl]
    have h1 : c * w.length % c = 0 := Nat.mul_mod_right c w.length
    have h2 : c * w.length / c = w.length := Nat.mul_div_cancel_left _ (by omega)
    rw [h1, h2]
    have h3 : (rep c w).take w.length = w := by
      obtain ⟨k, rfl⟩ : ∃ k, c = k + 1 := ⟨c - 1, by omega⟩
      rw [rep_succ]; simp
    rw [h3]; simp
theorem comm_pow : ∀ (N : Nat) (u v : List Nat), u.length + v.length ≤ N → u ≠ [] → v ≠ [] → u ++ v = v ++ u → ∃ w a b, w ≠ [] ∧ 1 ≤ a ∧ 1 ≤ b ∧ u = rep a w ∧ v = rep b w
  | 0, u, v, h, hu, _, _ => by
    have := List.length_pos_iff.mpr hu; omega
  | N + 1, u, v, h, hu, hv, e => by
    have pu := List.length_pos_iff.mpr hu
    have pv := List.length_pos_iff.mpr hv
    rcases Nat.lt_trichotomy u.length v.length with hlt | heq | hgt
    · obtain ⟨v', rfl⟩ : ∃ v', v = u ++ v' := by
        refine ⟨v.drop u.length, ?_⟩
        have := congrArg (List.take u.length) e
        rw [List.take_left, List.take_append_of_le_length (by omega)] at this
        conv => lhs; rw [← List.take_append_drop u.length v]
        rw [← this]
      rw [List.append_assoc] at e
      have e' := List.append_cancel_left e
      have pv' : v' ≠ [] := by
        intro h0; rw [h0] at hlt; simp at hlt
      rw [List.length_append] at h
      obtain ⟨w, a, b, hw, ha, hb, h1, h2⟩ := comm_pow N u v' (by omega) hu pv' e'
      exact ⟨w, a, a + b, hw, ha, by omega, h1, by rw [rep_add, ← h1, ← h2]⟩
    · have := List.append_inj e heq
      exact ⟨u, 1, 1, hu, by omega, by omega, (rep_one u).symm, by rw [rep_one]; exact this.1.symm⟩
    · obtain ⟨u', rfl⟩ : ∃ u', u = v ++ u' := by
        refine ⟨u.drop v.length, ?_⟩
        have := congrArg (List.take v.length) e
        rw [List.take_left, List.take_append_of_le_length (by omega)] at this
        conv => lhs; rw [← List.take_append_drop v.length u]
        rw [this]
      rw [List.append_assoc] at e
      have e' := List.append_cancel_left e
      have pu' : u' ≠ [] := by
        intro h0; rw [h0] at hgt; simp at hgt
      rw [List.length_append] at h
      obtain ⟨w, a, b, hw, ha, hb, h1, h2⟩ := comm_pow N u' v (by omega) pu' hv e'
      exact ⟨w, b + a, b, hw, by omega, hb, by rw [rep_add, ← h1, ← h2], h2⟩
theorem rot_pow {t : List Nat} : (∃ j, 1 ≤ j ∧ j < t.length ∧ t.drop j ++ t.take j = t) ↔ isPow t = true := by
  rw [isPow_iff]
  constructor
  · rintro ⟨j, h1, h2, e⟩
    have e' : t.drop j ++ t.take j = t.take j ++ t.drop j := by rw [e, List.take_append_drop]
    obtain ⟨w, a, b, hw, ha, hb, ea, eb⟩ := comm_pow _ _ _ (Nat.le_refl _) (by
      intro h0; have := congrArg List.length h0; rw [List.length_drop] at this; simp at this; omega) (by
      intro h0; have := congrArg List.length h0; rw [List.length_take] at this; simp only [List.length_nil] at this; omega) e'
    exact ⟨a + b, w, by omega, hw, by rw [rep_add, ← ea, ← eb]; exact e.symm⟩
  · rintro ⟨c, w, hc, hw, rfl⟩
    obtain ⟨k, rfl⟩ : ∃ k, c = k + 2 := ⟨c - 2, by omega⟩
    have hp := List.length_pos_iff.mpr hw
    refine ⟨w.length, hp, ?_, ?_⟩
    · rw [rep_len, Nat.add_mul]; omega
    · have e1 : rep (k + 2) w = w ++ rep (k + 1) w := rep_succ (k + 1) w
      rw [e1]; simp
      have e2 : rep (k + 1) w ++ w = rep (k + 1) w ++ rep 1 w := by rw [rep_one]
      rw [e2, ← rep_add, ← e1]
/-- in itself laid twice, the first and the last sign left out -/
theorem twice_pow {t : List Nat} (hne : 1 ≤ t.length) : (∃ i, i + t.length ≤ (((t ++ t).drop 1).dropLast).length ∧ ((((t ++ t).drop 1).dropLast).drop i).take t.length = t) ↔ isPow t = true := by
  rw [← rot_pow]
  have key : ∀ i, i + t.length ≤ (((t ++ t).drop 1).dropLast).length → ((((t ++ t).drop 1).dropLast).drop i).take t.length = t.drop (i + 1) ++ t.take (i + 1) := by
    intro i hi
    simp only [List.length_dropLast, List.length_drop, List.length_append] at hi
    have e1 : (t ++ t).drop (1 + i) = t.drop (1 + i) ++ t := List.drop_append_of_le_length (by omega)
    have e2 : min t.length ((t ++ t).length - 1 - 1 - i) = t.length := by rw [List.length_append]; omega
    rw [List.dropLast_eq_take, List.length_drop, List.drop_take, List.take_take, List.drop_drop, e2, e1, List.take_append]
    rw [List.take_of_length_le (by rw [List.length_drop]; omega), List.length_drop]
    rw [show t.length - (t.length - (1 + i)) = 1 + i from by omega, Nat.add_comm]
  constructor
  · rintro ⟨i, hi, e⟩
    rw [key i hi] at e
    simp only [List.length_dropLast, List.length_drop, List.length_append] at hi
    exact ⟨i + 1, by omega, by omega, e⟩
  · rintro ⟨j, h1, h2, e⟩
    have hi : (j - 1) + t.length ≤ (((t ++ t).drop 1).dropLast).length := by
      simp only [List.length_dropLast, List.length_drop, List.length_append]; omega
    refine ⟨j - 1, hi, ?_⟩
    rw [key _ hi, show j - 1 + 1 = j from by omega]; exact e

/-! doubling one sign keeps it -/
abbrev dq : List Nat → List Nat := dbl 34
theorem dq_app (a b : List Nat) : dq (a ++ b) = dq a ++ dq b := dbl_append 34 a b
theorem dq_rep (c : Nat) (w : List Nat) : dq (rep c w) = rep c (dq w) := by
  induction c with
  | zero => rfl
  | succ c ih => rw [rep_succ, rep_succ, dq_app, ih]
theorem dq_q (r : List Nat) : dq (34 :: r) = 34 :: 34 :: dq r := by simp [dq, dbl]
theorem dq_o {x : Nat} (h : x ≠ 34) (r : List Nat) : dq (x :: r) = x :: dq r := by simp [dq, dbl, h]
theorem dq_ne {l : List Nat} (h : l ≠ []) : dq l ≠ [] := by
  cases l with
  | nil => exact absurd rfl h
  | cons x r =>
    by_cases hx : x = 34
    · subst hx; rw [dq_q]; simp
    · rw [dq_o hx]; simp
theorem dq_inj : ∀ a b : List Nat, dq a = dq b → a = b
  | [], [], _ => rfl
  | [], x :: r, h => absurd h.symm (dq_ne (by simp))
  | x :: r, [], h => absurd h (dq_ne (by simp))
  | x :: r, y :: q, h => by
    by_cases hx : x = 34
    · subst hx
      rw [dq_q] at h
      by_cases hy : y = 34
      · subst hy; rw [dq_q] at h; simp at h; rw [dq_inj r q h]
      · rw [dq_o hy] at h; simp at h; exact absurd h.1.symm hy
    · rw [dq_o hx] at h
      by_cases hy : y = 34
      · subst hy; rw [dq_q] at h; simp at h; exact absurd h.1 hx
      · rw [dq_o hy] at h; simp at h; rw [h.1, dq_inj r q h.2]
theorem dq_cut : ∀ (l u : List Nat) (b : Nat) (v : List Nat), b ≠ 34 → dq l = u ++ b :: v → ∃ l1 l2, l = l1 ++ l2 ∧ dq l1 = u ++ [b] ∧ dq l2 = v
  | [], u, b, v, _, h => by
    have := congrArg List.length h
    simp [dq, dbl] at this
  | x :: r, u, b, v, hb, h => by
    by_cases hx : x = 34
    · subst hx
      rw [dq_q] at h
      match u, h with
      | [], h => simp at h; exact absurd h.1.symm hb
      | [a], h => simp at h; exact absurd h.2.1.symm hb
      | a :: a' :: u', h =>
        simp at h
        obtain ⟨rfl, rfl, h⟩ := h
        obtain ⟨l1, l2, rfl, h1, h2⟩ := dq_cut r u' b v hb h
        exact ⟨34 :: l1, l2, rfl, by rw [dq_q, h1]; rfl, h2⟩
    · rw [dq_o hx] at h
      match u, h with
      | [], h =>
        simp at h
        obtain ⟨rfl, rfl⟩ := h
        exact ⟨[x], r, rfl, by rw [dq_o hx]; rfl, rfl⟩
      | a :: u', h =>
        simp at h
        obtain ⟨rfl, h⟩ := h
        obtain ⟨l1, l2, rfl, h1, h2⟩ := dq_cut r u' b v hb h
        exact ⟨x :: l1, l2, rfl, by rw [dq_o hx, h1]; rfl, h2⟩
theorem rot_rep (y z : List Nat) : ∀ k, rep (k + 1) (y ++ z) = y ++ (rep k (z ++ y) ++ z)
  | 0 => by rw [rep_one]; simp [rep]
  | k + 1 => by rw [rep_succ, rot_rep y z k, rep_succ]; simp
theorem dq_chain {s' z : List Nat} {b : Nat} (hb : b ≠ 34) : ∀ (k : Nat) (l : List Nat), dq l = rep (k + 1) (s' ++ [b]) ++ z → ∃ m l4, l = rep (k + 1) m ++ l4 ∧ dq m = s' ++ [b] ∧ dq l4 = z
  | 0, l, h => by
    rw [rep_one] at h
    obtain ⟨l1, l2, rfl, h1, h2⟩ := dq_cut l s' b z hb (by rw [h]; simp)
    exact ⟨l1, l2, by rw [rep_one], h1, h2⟩
  | k + 1, l, h => by
    rw [rep_succ] at h
    obtain ⟨l1, l2, rfl, h1, h2⟩ := dq_cut l s' b (rep (k + 1) (s' ++ [b]) ++ z) hb (by rw [h]; simp)
    obtain ⟨m, l4, rfl, h3, h4⟩ := dq_chain hb k l2 h2
    have : l1 = m := dq_inj _ _ (by rw [h1, h3])
    subst this
    exact ⟨l1, l4, by rw [rep_succ (k + 1)]; simp, h3, h4⟩
theorem last_other : ∀ w : List Nat, (∀ x ∈ w, x = 34) ∨ ∃ y b z, w = y ++ b :: z ∧ b ≠ 34
  | [] => .inl (fun _ h => nomatch h)
  | x :: r => by
    by_cases hx : x = 34
    · rcases last_other r with h | ⟨y, b, z, rfl, hb⟩
      · exact .inl fun a ha => by
          rcases List.mem_cons.mp ha with rfl | ha
          · exact hx
          · exact h a ha
      · exact .inr ⟨x :: y, b, z, rfl, hb⟩
    · exact .inr ⟨[], x, r, rfl, hx⟩
theorem dq_mem : ∀ (l : List Nat), (∀ x ∈ dq l, x = 34) → ∀ x ∈ l, x = 34
  | [], _ => fun _ h => nomatch h
  | a :: r, h => by
    by_cases ha : a = 34
    · subst ha
      rw [dq_q] at h
      intro x hx
      rcases List.mem_cons.mp hx with rfl | hx
      · rfl
      · exact dq_mem r (fun y hy => h y (.tail _ (.tail _ hy))) x hx
    · rw [dq_o ha] at h
      exact absurd (h a (.head _)) ha
theorem dq_pow {l : List Nat} (h2 : 2 ≤ l.length) : isPow (dq l) = isPow l := by
  rw [Bool.eq_iff_iff, isPow_iff, isPow_iff]
  constructor
  · rintro ⟨c, w, hc, hw, e⟩
    rcases last_other w with hall | ⟨y, b, z, rfl, hb⟩
    · have h1 : ∀ x ∈ l, x = 34 := dq_mem l (by
        rw [e]
        intro x hx
        obtain ⟨w', hw', hx'⟩ := List.mem_flatten.mp hx
        rw [List.eq_of_mem_replicate hw'] at hx'
        exact hall x hx')
      refine ⟨l.length, [34], h2, by simp, ?_⟩
      have e1 : l = List.replicate l.length 34 := List.eq_replicate_iff.mpr ⟨rfl, h1⟩
      have e2 : ∀ n : Nat, rep n [34] = List.replicate n 34 := by
        intro n
        induction n with
        | zero => rfl
        | succ n ih => rw [rep_succ, ih, List.replicate_succ]; rfl
      rw [e2]; exact e1
    · obtain ⟨k, rfl⟩ : ∃ k, c = k + 2 := ⟨c - 2, by omega⟩
      have e1 : dq l = y ++ b :: (rep (k + 1) ((z ++ y) ++ [b]) ++ z) := by
        rw [e, show y ++ b :: z = (y ++ [b]) ++ z from by simp, rot_rep (y ++ [b]) z (k + 1)]
        simp
      obtain ⟨l1, l2, rfl, h1, h3⟩ := dq_cut l y b _ hb e1
      obtain ⟨m, l4, rfl, h4, h5⟩ := dq_chain hb k l2 h3
      have hm : m = l4 ++ l1 := dq_inj _ _ (by rw [h4, dq_app, h5, h1]; simp)
      subst hm
      refine ⟨k + 2, l1 ++ l4, by omega, ?_, (rot_rep l1 l4 (k + 1)).symm⟩
      intro h0
      have : l1 = [] := (List.append_eq_nil_iff.mp h0).1
      rw [this] at h1
      simp [dq, dbl] at h1
  · rintro ⟨c, w, hc, hw, rfl⟩
    exact ⟨c, dq w, hc, dq_ne hw, dq_rep c w⟩
end Mine
end
section
open PySem PySem.W PyProof.Rows PySem.Calls
set_option linter.unusedVariables false
set_option maxRecDepth 100000
namespace Mine
open Builtin.Str StrLaws
theorem slice_txt (x : Str) (l u : Option Int) : Txt.slice x l u = sliceText x l u := rfl
theorem slice_to {x : Str} {j : Int} (h : 0 ≤ j ∧ j ≤ x.length) : tl (Txt.slice x none (some j)) = (tl x).take j.toNat := by
  rw [slice_txt, sliceText_to ⟨h.1, by rw [← tl_len] at h; exact h.2⟩]
  simp [tl]
theorem slice_from1 {x : Str} (h : 1 ≤ x.length) : tl (Txt.slice x (some 1) none) = (tl x).drop 1 := by
  have hx := tl_len x
  rw [slice_txt, sliceText_from ⟨by omega, by simp only [tl] at hx; omega⟩]
  show List.take _ (List.drop _ (tl x)) = _
  rw [List.take_of_length_le]
  · rfl
  · rw [List.length_drop]
    show _ ≤ (((tl x).length : Int) - 1).toNat
    have : (1 : Int).toNat = 1 := rfl
    omega
theorem slice_toM1 {x : Str} (h : 1 ≤ x.length) : tl (Txt.slice x none (some (-1))) = (tl x).dropLast := by
  have hx := tl_len x
  rw [slice_txt, sliceText_to_neg (by omega) (by omega)]
  show List.take _ (List.drop 0 (tl x)) = _
  rw [List.drop_zero, List.dropLast_eq_take]
  congr 1; omega
theorem slice_1M1 {x : Str} (h : 2 ≤ x.length) : tl (Txt.slice x (some 1) (some (-1))) = ((tl x).drop 1).dropLast := by
  have hx := tl_len x
  rw [slice_txt, sliceText_neg_hi x (some 1) (by omega) (by omega), sliceText_plain ⟨by omega, by omega, by simp only [tl] at hx; omega⟩]
  show List.take _ (List.drop 1 (tl x)) = _
  rw [List.dropLast_eq_take, List.length_drop]
  congr 1; omega
theorem bool_eq {a b : Bool} (h : a = true ↔ b = true) : a = b := by cases a <;> cases b <;> simp_all

section
variable {t : Str}
theorem so_twice (h : 1 ≤ t.length) (hd : 46 ∉ tl t) : ellM (Str.ofString "..." ++ t ++ Str.ofString "...") (Txt.slice (t ++ t) (some 1) (some (-1))) = isPow (tl t) := by
  have hl := tl_len t
  have hsl : tl (Txt.slice (t ++ t) (some 1) (some (-1))) = ((tl t ++ tl t).drop 1).dropLast := by
    rw [slice_1M1 (by rw [Str.length_append]; omega), tl_app]
  refine bool_eq ((ell_in (t := t) hd (by rw [tl_app, tl_app, tl_dots])).trans ?_)
  rw [← twice_pow (by omega), ← tl_len (Txt.slice (t ++ t) (some 1) (some (-1))), hsl, hl]
theorem so_self (h : 1 ≤ t.length) (hd : 46 ∉ tl t) : ellM (t ++ Str.ofString "..." ++ t) t = false := by
  have hl := tl_len t
  rw [ell_two hd hd (by rw [tl_app, tl_app, tl_dots]), decide_eq_false_iff_not]
  rintro ⟨h1, _⟩
  omega
theorem dot_drop {l : List Nat} (h : 46 ∉ l) (n : Nat) : 46 ∉ l.drop n := fun hm => h (List.mem_of_mem_drop hm)
theorem dot_take {l : List Nat} (h : 46 ∉ l) (n : Nat) : 46 ∉ l.take n := fun hm => h (List.mem_of_mem_take hm)
theorem dot_last {l : List Nat} (h : 46 ∉ l) : 46 ∉ l.dropLast := fun hm => h (List.dropLast_subset l hm)
theorem so_less1 (h : 1 ≤ t.length) (hd : 46 ∉ tl t) : ellM (Txt.slice t (some 1) none) t = false := by
  have hl := tl_len t
  rw [ell_plain (by rw [slice_from1 h]; exact dot_drop hd 1), decide_eq_false_iff_not, slice_from1 h]
  intro e
  have := congrArg List.length e
  rw [List.length_drop] at this; omega
theorem so_less2 (h : 1 ≤ t.length) (hd : 46 ∉ tl t) : ellM t (Txt.slice t (some 1) none) = false := by
  have hl := tl_len t
  rw [ell_plain hd, decide_eq_false_iff_not, slice_from1 h]
  intro e
  have := congrArg List.length e
  rw [List.length_drop] at this; omega
theorem so_less3 (h : 1 ≤ t.length) (hd : 46 ∉ tl t) : ellM (Txt.slice t none (some (-1))) t = false := by
  have hl := tl_len t
  rw [ell_plain (by rw [slice_toM1 h]; exact dot_last hd), decide_eq_false_iff_not, slice_toM1 h]
  intro e
  have := congrArg List.length e
  rw [List.length_dropLast] at this; omega
theorem so_less4 (h : 1 ≤ t.length) (hd : 46 ∉ tl t) : ellM t (Txt.slice t none (some (-1))) = false := by
  have hl := tl_len t
  rw [ell_plain hd, decide_eq_false_iff_not, slice_toM1 h]
  intro e
  have := congrArg List.length e
  rw [List.length_dropLast] at this; omega
/-- all signs are one -/
def allOne (l : List Nat) : Bool := decide (l.drop 1 = l.dropLast)
theorem so_one1 (h : 2 ≤ t.length) (hd : 46 ∉ tl t) : ellM (Txt.slice t (some 1) none ++ Str.ofString "...") t = allOne (tl t) := by
  have hl := tl_len t
  rw [ell_two (u := (tl t).drop 1) (v := []) (dot_drop hd 1) (by simp) (by rw [tl_app, tl_dots, slice_from1 (by omega)]; simp)]
  refine decide_eq_decide.mpr ⟨?_, ?_⟩
  · rintro ⟨_, h2, _⟩
    rw [List.length_drop] at h2
    rw [← h2, List.dropLast_eq_take]
  · intro h2
    refine ⟨by rw [List.length_drop]; simp only [List.length_nil]; omega, ?_, ?_⟩
    · rw [List.length_drop, ← List.dropLast_eq_take]; exact h2.symm
    · simp only [List.length_nil, Nat.sub_zero]; rw [← hl]; simp
theorem so_one2 (h : 2 ≤ t.length) (hd : 46 ∉ tl t) : ellM (Str.ofString "..." ++ Txt.slice t none (some (-1))) t = allOne (tl t) := by
  have hl := tl_len t
  rw [ell_two (u := []) (v := (tl t).dropLast) (by simp) (dot_last hd) (by rw [tl_app, tl_dots, slice_toM1 (by omega)]; simp)]
  have e1 : t.length - (tl t).dropLast.length = 1 := by rw [List.length_dropLast]; omega
  rw [e1]
  refine decide_eq_decide.mpr ⟨?_, ?_⟩
  · rintro ⟨_, _, h2⟩
    exact h2
  · intro h2
    exact ⟨by rw [List.length_dropLast]; simp only [List.length_nil]; omega, by simp, h2⟩
theorem allOne_rep : ∀ l : List Nat, l ≠ [] → (l.drop 1 = l.dropLast ↔ l = List.replicate l.length (l.headD 0))
  | [], h => absurd rfl h
  | [a], _ => by simp
  | a :: b :: r, _ => by
    have ih := allOne_rep (b :: r) (by simp)
    simp only [List.drop_succ_cons, List.drop_zero, List.dropLast_cons_cons, List.length_cons, List.headD_cons, List.replicate_succ, List.cons.injEq, true_and] at ih ⊢
    constructor
    · rintro ⟨rfl, h⟩ 
      have := (ih).mp (by
        cases r with
        | nil => rfl
        | cons c r => simp at h ⊢; exact h)
      exact ⟨rfl, this⟩
    · rintro ⟨rfl, h⟩
      have := ih.mpr h
      cases r with
      | nil => simp
      | cons c r => simp at this ⊢; exact this
end

theorem joinD_rep (w : List Nat) : ∀ ps : List Str, (∀ x ∈ ps, tl x = w) → tl (Str.join (Str.ofString "...") ps) = joinD (List.replicate ps.length w) := by
  intro ps h
  rw [tl_join]
  congr 1
  rw [List.eq_replicate_iff]
  refine ⟨by simp, fun b hb => ?_⟩
  obtain ⟨x, hx, rfl⟩ := List.mem_map.mp hb
  exact h x hx
theorem fdiv_nat (a b : Nat) : ((a : Int).fdiv (b : Int)) = ((a / b : Nat) : Int) := by
  rw [Int.fdiv_eq_ediv_of_nonneg _ (by omega)]; rfl
theorem fmod_nat (a b : Nat) : ((a : Int).fmod (b : Int)) = ((a % b : Nat) : Int) := by
  rw [Int.fmod_eq_emod_of_nonneg _ (by omega)]; rfl
theorem so_join {t : Str} {i : Nat} (hi : i < t.length - 1) (hd : 46 ∉ tl t) (hm : (t.length : Int).fmod (2 + (i : Int)) = 0) :
    ellM (Str.join (Str.ofString "...") (List.replicate (2 + (i : Int)).toNat (Txt.slice t none (some ((t.length : Int).fdiv (2 + (i : Int))))))) t = powAt (tl t) i := by
  have hl := tl_len t
  have e2 : (2 + (i : Int)) = ((i + 2 : Nat) : Int) := by omega
  have e3 : (2 + (i : Int)).toNat = i + 2 := by omega
  rw [e3]
  rw [e2, fmod_nat] at hm
  rw [e2, fdiv_nat]
  have hm' : t.length % (i + 2) = 0 := by omega
  have hdm := Nat.div_add_mod t.length (i + 2)
  have hdl : t.length / (i + 2) ≤ t.length := Nat.div_le_self _ _
  have hd1 : 1 ≤ t.length / (i + 2) := Nat.div_pos (by omega) (by omega)
  generalize hk : t.length / (i + 2) = k at *
  have hs : tl (Txt.slice t none (some (k : Int))) = (tl t).take k := by rw [slice_to ⟨by omega, by omega⟩]; rfl
  have hsl : (Txt.slice t none (some (k : Int))).length = k := by rw [← tl_len, hs, List.length_take]; omega
  rw [ell_rep (c := i + 2) (w := Txt.slice t none (some (k : Int))) (by omega) (by omega) (by rw [hs]; exact dot_take hd k) (by rw [hsl]; omega)
    (by rw [joinD_rep _ _ (fun x hx => by rw [List.eq_of_mem_replicate hx]), List.length_replicate])]
  unfold powAt
  rw [hl, hm', hk, hs]
  simp
theorem so_miss {t : Str} {i : Nat} (hm : (t.length : Int).fmod (2 + (i : Int)) ≠ 0) : powAt (tl t) i = false := by
  have hl := tl_len t
  have e2 : (2 + (i : Int)) = ((i + 2 : Nat) : Int) := by omega
  rw [e2, fmod_nat] at hm
  have hm' : t.length % (i + 2) ≠ 0 := by omega
  unfold powAt
  rw [hl]
  simp [hm']
theorem range_any_succ (p : Nat → Bool) (i : Nat) : (List.range (i + 1)).any p = ((List.range i).any p || p i) := by
  rw [List.range_succ, List.any_append]; simp
theorem join_len_le {x : Str} {c : Nat} (hx : x.length ≤ 40) (hc : c ≤ 41) : (Str.join (Str.ofString "...") (List.replicate c x)).length ≤ 1900 := by
  have d3 : (Str.ofString "...").length = 3 := by decide +kernel
  have h := StrLaws.join_length_le (Str.ofString "...") (List.replicate c x)
  have h2 := sumLen_le (B := 40) (List.replicate c x) (fun y hy => by rw [List.eq_of_mem_replicate hy]; exact hx)
  rw [List.length_replicate] at h h2
  rw [d3] at h
  omega
section
variable {prog : Program} {w : World} {A : Around} {E : Value → Shared → Prop} {s : Shared} {h₀ : Heap} {L D b : Addr} {m : Str → Option Value} {news news' : List (Addr × Obj)}
theorem join_rep {x : Str} {t u : Tok} {c : Nat} {Q : Value → Shared → Prop} (hl : s.heap.IsList D (List.replicate c [Value.str x u]).flatten.toArray) (hx : x.length ≤ 40) (hc : c ≤ 41)
    (h : ∀ t' k, Q (.str (Str.join (Str.ofString "...") (List.replicate c x)) t') { s with toks := k }) : wpAny (model prog w) A (call (.builtin "str.join") [.str (Str.ofString "...") t, .ref D]) Q E s := by
  have e : (List.replicate c [Value.str x u]).flatten = strValues (List.replicate c (x, u)) := by
    simp [strValues, List.flatten_replicate_singleton]
  rw [e] at hl
  have d3 : (Str.ofString "...").length = 3 := by decide +kernel
  refine SC.join hl (texts := List.replicate c x) (by simp) ?_ (fun t' k => ?_)
  · unfold JoinOk
    rw [joinTotal]
    have h2 := sumLen_le (B := 40) (List.replicate c x) (fun y hy => by rw [List.eq_of_mem_replicate hy]; exact hx)
    rw [List.length_replicate] at h2 ⊢
    unfold tooLong
    rw [d3]
    simp [sizeLine_eq]; simp at h2; omega
  · have := h t' k
    rw [← glued_eq_join] at this
    exact this
end
theorem cb_pre {prog : Program} {w : World} {K : Frag} {p : Program} {loose : List Str} {mean : ExcName → Option Value} {mg mb : Str → Option Value} {f : Addr} {news : List (Addr × Obj)} {pre : Prop} {vs : List Value} {R : Tok → Value}
    (C : CbClaim prog w K p loose mean mg mb f news [] pre vs R) (h : pre) : CbClaim prog w K p loose mean mg mb f news [] True vs R := by
  intro dp un gd cn cs a ccd cl outer A₀ base h₀ L m s Q E B F X N T hk _
  exact C dp un gd cn cs a ccd cl outer A₀ base h₀ L m s Q E B F X N T hk h

theorem foldl_one (c : Nat) : ∀ (n : Nat) (acc : Array Nat), ((List.replicate n #[c]).foldl (· ++ ·) acc).toList = acc.toList ++ List.replicate n c
  | 0, acc => by simp
  | n + 1, acc => by rw [List.replicate_succ, List.foldl_cons, foldl_one c n, List.replicate_succ]; simp
theorem mul_one_tl (c : Nat) {n : Int} (h : 1 ≤ n) : tl (Txt.mul ⟨#[c]⟩ n) = List.replicate n.toNat c := by
  unfold Txt.mul
  rw [if_neg (by omega)]
  by_cases h1 : n = 1
  · subst h1
    have : ((1 : Int) == 1 || (⟨#[c]⟩ : Str).length == 0) = true := rfl
    rw [if_pos this]; rfl
  · have : ¬ ((n == 1 || (⟨#[c]⟩ : Str).length == 0) = true) := by
      have e : (⟨#[c]⟩ : Str).length = 1 := rfl
      simp [h1, e]
    rw [if_neg this]
    show ((List.replicate n.toNat #[c]).foldl (· ++ ·) #[]).toList = _
    rw [foldl_one]; simp
theorem so_all {t : Str} (h : 1 ≤ t.length) : (t == Txt.mul (Txt.item t 0) (t.length : Int)) = allOne (tl t) := by
  have hl := tl_len t
  obtain ⟨c, e1, e2⟩ : ∃ c, Txt.item t 0 = ⟨#[c]⟩ ∧ (tl t).headD 0 = c := by
    obtain ⟨c, e1, e2⟩ := item_one (x := t) (v := 0) (i := 0) rfl (by omega)
    refine ⟨c, e1, ?_⟩
    rw [List.drop_zero] at e2
    show t.cps.toList.headD 0 = c
    rw [e2]; rfl
  have hne : tl t ≠ [] := by intro h0; rw [h0] at hl; simp at hl; omega
  rw [str_beq, e1, mul_one_tl c (by omega)]
  unfold allOne
  refine decide_eq_decide.mpr ?_
  rw [allOne_rep _ hne, e2, hl]
  have : ((t.length : Int)).toNat = t.length := by omega
  rw [this]
theorem bne_of {a b : Bool} {P : Prop} (e : b = a) (h : (a != b) = true) : P := by subst e; cases b <;> cases h
end Mine
end
section
open PySem PySem.W PyProof.Rows PySem.Calls
set_option linter.unusedVariables false
set_option maxRecDepth 100000
namespace Mine
open Builtin.Str StrLaws
/-! law 1's end, over words -/
def inn (u v : List Nat) (i j : Nat) : List Int := (List.range j).flatMap fun k => if isPow (rep (1 + i) u ++ rep (1 + k) v) = true then [((min (1 + i) (1 + k) : Nat) : Int)] else []
def outw (u v : List Nat) (i : Nat) : List Int := (List.range i).flatMap fun k => inn u v k (3 - k)
theorem inn_zero (u v : List Nat) (i : Nat) : inn u v i 0 = [] := rfl
theorem inn_succ (u v : List Nat) (i j : Nat) : inn u v i (j + 1) = inn u v i j ++ (if isPow (rep (1 + i) u ++ rep (1 + j) v) = true then [((min (1 + i) (1 + j) : Nat) : Int)] else []) := by
  unfold inn; rw [List.range_succ, List.flatMap_append]; simp
theorem outw_succ (u v : List Nat) (i : Nat) : outw u v (i + 1) = outw u v i ++ inn u v i (3 - i) := by
  unfold outw; rw [List.range_succ, List.flatMap_append]; simp
theorem inn_len (u v : List Nat) (i : Nat) : ∀ j, (inn u v i j).length ≤ j
  | 0 => Nat.le_refl _
  | j + 1 => by
    have := inn_len u v i j
    rw [inn_succ, List.length_append]; split <;> simp <;> omega
theorem outw_len (u v : List Nat) : ∀ i, (outw u v i).length ≤ 3 * i
  | 0 => Nat.le_refl _
  | i + 1 => by
    have := outw_len u v i
    have h2 := inn_len u v i (3 - i)
    rw [outw_succ, List.length_append]; omega
def chkw (u v : List Nat) : Bool := if u ++ v = v ++ u then (outw u v 3).length == 6 else decide (outw u v 3 = []) || decide (outw u v 3 = [1])
def wordsN : Nat → List (List Nat)
  | 0 => [[]]
  | n + 1 => (wordsN n).flatMap fun w => [34 :: w, 35 :: w]
theorem mem_words : ∀ w : List Nat, (∀ x ∈ w, x = 34 ∨ x = 35) → w ∈ wordsN w.length
  | [], _ => .head _
  | a :: r, h => by
    have ih := mem_words r fun x hx => h x (.tail _ hx)
    refine List.mem_flatMap.mpr ⟨r, ih, ?_⟩
    rcases h a (.head _) with rfl | rfl <;> simp
def chkAll (a b : Nat) : Bool := (wordsN a).all fun u => (wordsN b).all fun v => chkw u v
theorem chk11 : chkAll 1 1 = true := by decide +kernel
theorem chk12 : chkAll 1 2 = true := by decide +kernel
theorem chk13 : chkAll 1 3 = true := by decide +kernel
theorem chk14 : chkAll 1 4 = true := by decide +kernel
theorem chk21 : chkAll 2 1 = true := by decide +kernel
theorem chk22 : chkAll 2 2 = true := by decide +kernel
theorem chk23 : chkAll 2 3 = true := by decide +kernel
theorem chk24 : chkAll 2 4 = true := by decide +kernel
theorem chk31 : chkAll 3 1 = true := by decide +kernel
theorem chk32 : chkAll 3 2 = true := by decide +kernel
theorem chk33 : chkAll 3 3 = true := by decide +kernel
theorem chk34 : chkAll 3 4 = true := by decide +kernel
theorem chk_any {a b : Nat} (ha : 1 ≤ a ∧ a ≤ 3) (hb : 1 ≤ b ∧ b ≤ 4) : chkAll a b = true := by
  have h1 : a = 1 ∨ a = 2 ∨ a = 3 := by omega
  have h2 : b = 1 ∨ b = 2 ∨ b = 3 ∨ b = 4 := by omega
  rcases h1 with rfl | rfl | rfl <;> rcases h2 with rfl | rfl | rfl | rfl
  · exact chk11
  · exact chk12
  · exact chk13
  · exact chk14
  · exact chk21
  · exact chk22
  · exact chk23
  · exact chk24
  · exact chk31
  · exact chk32
  · exact chk33
  · exact chk34
theorem chk_word {u v : List Nat} (hu : ∀ x ∈ u, x = 34 ∨ x = 35) (hv : ∀ x ∈ v, x = 34 ∨ x = 35) (ha : 1 ≤ u.length ∧ u.length ≤ 3) (hb : 1 ≤ v.length ∧ v.length ≤ 4) : chkw u v = true := by
  have h := chk_any ha hb
  have := List.all_eq_true.mp h u (mem_words u hu)
  exact List.all_eq_true.mp this v (mem_words v hv)
section
variable {f : Nat → Nat} (hf : ∀ a b, f a = f b → a = b)
theorem rep_map (f : Nat → Nat) (k : Nat) (w : List Nat) : rep k (w.map f) = (rep k w).map f := by
  induction k with
  | zero => rfl
  | succ k ih => rw [rep_succ, rep_succ, ih, List.map_append]
include hf
theorem map_iff {a b : List Nat} : a.map f = b.map f ↔ a = b := by
  constructor
  · intro h
    exact List.map_inj_right (fun x y => hf x y) |>.mp h
  · rintro rfl; rfl
theorem powAt_map (l : List Nat) (k : Nat) : powAt (l.map f) k = powAt l k := by
  unfold powAt
  rw [List.length_map, ← List.map_take, rep_map]
  congr 1
  exact decide_eq_decide.mpr (map_iff hf)
theorem isPow_map (l : List Nat) : isPow (l.map f) = isPow l := by
  unfold isPow
  rw [List.length_map]
  congr 1
  funext k
  exact powAt_map hf l k
theorem outw_map (u v : List Nat) (i : Nat) : outw (u.map f) (v.map f) i = outw u v i := by
  unfold outw inn
  congr 1
  funext k
  congr 1
  funext j
  rw [rep_map, rep_map, ← List.map_append, isPow_map hf]
theorem chkw_map (u v : List Nat) : chkw (u.map f) (v.map f) = chkw u v := by
  unfold chkw
  rw [outw_map hf, ← List.map_append, ← List.map_append]
  by_cases h : u ++ v = v ++ u
  · rw [if_pos h, if_pos ((map_iff hf).mpr h)]
  · rw [if_neg h, if_neg (fun h' => h ((map_iff hf).mp h'))]
end
/-- a letter's figure -/
def swp (s x : Nat) : Nat := if x = 35 then s else if x = s then 35 else x
theorem swp_inj (s a b : Nat) (h : swp s a = swp s b) : a = b := by
  unfold swp at h
  (repeat' split at h) <;> omega
theorem let_word {s0 s1 : Str} {s : Nat} (h0 : tl s0 = [34]) (h1 : tl s1 = [s]) (hs : s ≠ 34) (l : List Int) (hl : ∀ x ∈ l, x = 254 ∨ x = 255) :
    ∃ w : List Nat, l.flatMap (spLet s0 s1) = w.map (swp s) ∧ w.length = l.length ∧ ∀ x ∈ w, x = 34 ∨ x = 35 := by
  refine ⟨l.map fun x => if x = 255 then 34 else 35, ?_, by simp, ?_⟩
  · induction l with
    | nil => rfl
    | cons a r ih =>
      rw [List.flatMap_cons, ih fun x hx => hl x (.tail _ hx), List.map_cons, List.map_cons]
      rcases hl a (.head _) with rfl | rfl
      · have : spLet s0 s1 254 = [s] := h1
        rw [this]; simp [swp]
      · have : spLet s0 s1 255 = [34] := h0
        rw [this]
        have e : swp s 34 = 34 := by unfold swp; rw [if_neg (by decide), if_neg (Ne.symm hs)]
        simp [e]
  · intro x hx
    obtain ⟨a, _, rfl⟩ := List.mem_map.mp hx
    split <;> simp
/-- what the law asks, of the words -/
theorem law_words {s0 s1 : Str} {s : Nat} (h0 : tl s0 = [34]) (h1 : tl s1 = [s]) (hs : s ≠ 34) {p q : List Int} (hp : ∀ x ∈ p, x = 254 ∨ x = 255) (hq : ∀ x ∈ q, x = 254 ∨ x = 255)
    (lp : 1 ≤ p.length ∧ p.length ≤ 3) (lq : 1 ≤ q.length ∧ q.length ≤ 4) : chkw (p.flatMap (spLet s0 s1)) (q.flatMap (spLet s0 s1)) = true := by
  obtain ⟨u, e1, l1, d1⟩ := let_word h0 h1 hs p hp
  obtain ⟨v, e2, l2, d2⟩ := let_word h0 h1 hs q hq
  rw [e1, e2, chkw_map (swp_inj s)]
  exact chk_word d1 d2 (by omega) (by omega)
theorem chk_six {u v : List Nat} (h : chkw u v = true) (ha : u ++ v = v ++ u) : (outw u v 3).length = 6 := by
  unfold chkw at h; rw [if_pos ha] at h; simpa using h
theorem chk_none {u v : List Nat} (h : chkw u v = true) (ha : ¬ u ++ v = v ++ u) : outw u v 3 = [] ∨ outw u v 3 = [1] := by
  unfold chkw at h; rw [if_neg ha] at h; simpa using h
end Mine
end
section
open PySem PySem.W PyProof.Rows PySem.Calls
set_option linter.unusedVariables false
set_option maxRecDepth 100000
namespace Mine
theorem setL_of : ∀ (l : List Value) (k : Nat) (v : Value), k < l.length → ki_setL l k v = some (l.set k v)
  | [], _, _, h => by simp at h
  | _ :: _, 0, _, _ => rfl
  | x :: r, k + 1, v, h => by
    have ih := setL_of r k v (by simpa using h)
    simp only [ki_setL, ih, List.set_cons_succ]
theorem iv_set (cs : List (Int × Tok)) (k : Nat) (v : Int) (t : Tok) : (iv cs).set k (.int v t) = iv (cs.set k (v, t)) := by
  unfold iv; rw [List.map_set]
section
variable {prog : Program} {w : World} {A : Around} {E : Value → Shared → Prop} {s : Shared} {h₀ : Heap} {L D : Addr} {m : Str → Option Value} {news news' : List (Addr × Obj)} {n : Nat} {cs : List (Int × Tok)}
theorem cell_getI {k : Int} {u : Tok} {Q : Value → Shared → Prop} (N : News h₀ L s.heap news) (hm : (D, listOf (iv cs).toArray n) ∈ news) (h0 : 0 ≤ k) (hk : k < (cs.length : Int)) (hn : cs.length ≤ 1000) (hp : ∀ p ∈ cs, 0 ≤ p.1)
    (h : ∀ c t, 0 ≤ c → cs[k.toNat]? = some (c, t) → Q (.int c t) s) :
    wpAny (model prog w) A (getItem (.ref D) (.int k u)) Q E s := by
  have hlt : k.toNat < cs.length := by omega
  have e : cs[k.toNat]? = some cs[k.toNat] := List.getElem?_eq_getElem hlt
  have hl : s.heap.IsList D (iv cs).toArray := ⟨_, (N _ hm).1, rfl, n, rfl⟩
  exact wpAny_getItem_list hl h0 (by omega) (by simp [iv, hlt]) (h _ _ (hp _ (List.getElem_mem hlt)) e)
theorem cell_set {k : Int} {u : Tok} {c : Int} {t : Tok} {tail : List (Addr × Obj)} {Q : Unit → Shared → Prop} (F : Fr h₀ L s.heap m) (N : News h₀ L s.heap ((D, listOf (iv cs).toArray n) :: tail)) (hD : ∀ p ∈ tail, p.1 ≠ D) (h0 : 0 ≤ k) (hk : k < (cs.length : Int)) (hn : cs.length ≤ 1000) (hp : ∀ p ∈ cs, 0 ≤ p.1) (hc : 0 ≤ c)
    (h : ∀ h' cs', cs'.length = cs.length → (∀ p ∈ cs', 0 ≤ p.1) → Fr h₀ L h' m → News h₀ L h' ((D, listOf (iv cs').toArray n) :: tail) → Q () { s with heap := h' }) :
    wpAny (model prog w) A (setItem (.ref D) (.int k u) (.int c t)) Q E s := by
  have hlt : k.toNat < cs.length := by omega
  refine ki_set (its := (iv cs).toArray) F N h0 (by omega) (q := (iv cs).set k.toNat (.int c t)) (by simpa using setL_of (iv cs) k.toNat (.int c t) (by rw [iv_len]; exact hlt)) (Upd.head hD) (fun h' F' N' => ?_)
  rw [iv_set] at N'
  refine h h' _ (by simp) (fun p hp' => ?_) F' N'
  rcases List.mem_or_eq_of_mem_set hp' with h1 | h1
  · exact hp p h1
  · rw [h1]; exact hc
end
def CeJ (D : Addr) (k : Nat) (rest : List (Addr × Obj)) (m₀ : Str → Option Value) (_i : Nat) (m : Str → Option Value) (nx : List (Addr × Obj)) : Prop :=
  ∃ (cs : List (Int × Tok)) (nn : Nat) (u1 u2 : Option Value), cs.length = k ∧ (∀ p ∈ cs, 0 ≤ p.1) ∧ nx = (D, listOf (iv cs).toArray nn) :: rest ∧
    m = fun z => if z = Str.ofString "x" then u1 else if z = Str.ofString "place" then u2 else m₀ z
theorem ce_end {D : Addr} {k i nn : Nat} {rest own led news₁ : List (Addr × Obj)} {m₀ m' : Str → Option Value} {h₀ : Heap} {L : Addr} {s₁ : Shared} {h' : Heap} {tk : Nat} {cs : List (Int × Tok)} {Qr : Value → Shared → Prop} {Qb : Shared → Prop}
    (F : Fr h₀ L h' m') (N : News h₀ L h' led) (hs : ∀ p ∈ own ++ ((D, listOf (iv cs).toArray nn) :: rest), p ∈ led) (hl : cs.length = k) (hp : ∀ p ∈ cs, 0 ≤ p.1) (ha : ((D, listOf (iv cs).toArray nn) :: rest).map (·.1) = news₁.map (·.1))
    (ho : ∀ z, z ≠ Str.ofString "x" → z ≠ Str.ofString "place" → m' z = m₀ z) :
    LoopStep3 h₀ L own news₁ (CeJ D k rest m₀ (i + 1)) s₁ Qr Qb .next { s₁ with heap := h', toks := tk } :=
  ⟨rfl, h', tk, m', _, rfl, F, fun p hp => N p (hs p hp), ha, cs, nn, m' (Str.ofString "x"), m' (Str.ofString "place"), hl, hp, rfl, up2_of rfl rfl ho⟩
theorem ce_start2 {D : Addr} {a b : Int} {ta tb : Tok} {nn : Nat} {rest : List (Addr × Obj)} {m : Str → Option Value} (ha : 0 ≤ a) (hb : 0 ≤ b) :
    CeJ D 2 rest m 0 m ((D, listOf #[.int a ta, .int b tb] nn) :: rest) :=
  ⟨[(a, ta), (b, tb)], nn, m (Str.ofString "x"), m (Str.ofString "place"), rfl, by
    intro p hp
    rcases List.mem_cons.mp hp with rfl | hp
    · exact ha
    · rw [List.mem_singleton.mp hp]; exact hb, rfl, up2_of rfl rfl (fun z h1 h2 => rfl)⟩
theorem ce_news {h₀ h : Heap} {L : Addr} {a b c : Addr × Obj} {own : List (Addr × Obj)} (N : News h₀ L h (own ++ [a, b, c])) : News h₀ L h (a :: b :: c :: own) := fun p hp => N p (by
  simp only [List.mem_append, List.mem_cons, List.not_mem_nil, or_false] at hp ⊢
  rcases hp with h | h | h | h <;> simp [h])
theorem ce_sub {a b c : Addr × Obj} {own : List (Addr × Obj)} : ∀ p ∈ own ++ [a, b, c], p ∈ a :: b :: c :: own := fun p hp => by
  simp only [List.mem_append, List.mem_cons, List.not_mem_nil, or_false] at hp ⊢
  rcases hp with h | h | h | h <;> simp [h]
theorem ce_ne {D : Addr} {o : Obj} {b c : Addr × Obj} {own : List (Addr × Obj)} (hb : b.1 < D ∧ c.1 < D) (h : ∀ p ∈ own, ∀ q ∈ [(D, o), b, c], p.1 ≠ q.1) : ∀ p ∈ b :: c :: own, p.1 ≠ D := fun p hp => by
  rcases List.mem_cons.mp hp with rfl | hp
  · exact Nat.ne_of_lt hb.1
  · rcases List.mem_cons.mp hp with rfl | hp
    · exact Nat.ne_of_lt hb.2
    · exact h p hp _ (.head _)
theorem fmod_range (a : Int) {b : Int} (hb : 0 < b) : 0 ≤ a.fmod b ∧ a.fmod b < b := by
  rw [Int.fmod_eq_emod_of_nonneg _ (by omega)]
  exact ⟨Int.emod_nonneg _ (by omega), Int.emod_lt_of_pos _ hb⟩
theorem two_of {α : Type} {l : List α} (h : l.length = 2) : ∃ a b, l = [a, b] := by
  match l, h with
  | [a, b], _ => exact ⟨a, b, rfl⟩
theorem pq_mem {X : Int → Int} {l : List Int} {k : Int} (h : k ∈ List.map (fun k' => 254 + (X k').fmod 2) l) : k = 254 ∨ k = 255 := by
  obtain ⟨a, _, rfl⟩ := List.mem_map.mp h
  have := fmod_range (X a) (b := 2) (by decide)
  omega
section
variable {prog : Program} {w : World} {A : Around} {E : Value → Shared → Prop} {s : Shared} {h₀ : Heap} {L D : Addr} {m : Str → Option Value} {news news' : List (Addr × Obj)} {n : Nat} {s0 s1 : Str} {t0 t1 : Tok}
def sgn (s0 s1 : Str) (k : Int) : Str := if k = 255 then s0 else s1
def sgnT (t0 t1 : Tok) (k : Int) : Tok := if k = 255 then t0 else t1
theorem sgn_led {value slice : Expr} {k : Int} {u : Tok} {Q : Value → Shared → Prop} (N : News h₀ L s.heap news) (hm : (D, listOf [Value.str s0 t0, Value.str s1 t1].toArray n) ∈ news) (hk : k = 254 ∨ k = 255)
    (h : Q (.str (sgn s0 s1 k) (sgnT t0 t1 k)) s)
    (hs : subscripted slice false (.ref D) (.int (255 - k) u) = operate [.ref D, .int (255 - k) u] (getItem (.ref D) (.int (255 - k) u)) := by with_unfolding_all rfl) :
    wpAny (model prog w) A (subscriptTail value slice (.ref D) (.int (255 - k) u)) Q E s := by
  refine item_led N hm (by omega) (by omega) ?_ h hs
  rcases hk with rfl | rfl <;> rfl
end
theorem sgn_one {c k : Int} : (sgn (Str.ofString "\"") ⟨#[c.toNat]⟩ k).length = 1 := by
  unfold sgn; split
  · decide +kernel
  · rfl
end Mine
end
section
open PySem PySem.W PyProof.Rows PySem.Calls
set_option linter.unusedVariables false
set_option maxRecDepth 100000
namespace Mine
open Builtin.Str StrLaws
theorem rangeN (n : Int) (h : 0 ≤ n) : (rangeKs 0 (1 + n - 0).toNat).length = n.toNat + 1 := by rw [rangeKs_length]; omega
theorem word_pack {ys : List Value} {X : Int → Int} {n k : Int} (h : IntsAre ys (List.map (fun k' => 254 + (X k').fmod 2) (rangeKs 0 (1 + n - 0).toNat))) (h0 : 0 ≤ n) (hk : n < k) :
    ∃ pl : List (Int × Tok), ys = iv pl ∧ fst1 pl = List.map (fun k' => 254 + (X k').fmod 2) (rangeKs 0 (1 + n - 0).toNat) ∧ (∀ x ∈ pl, x.1 = 254 ∨ x.1 = 255) ∧ 1 ≤ pl.length ∧ (pl.length : Int) ≤ k := by
  obtain ⟨pl, e1, e2⟩ := iv_of_ints h
  refine ⟨pl, e1, e2, fun x hx => ?_, ?_⟩
  · have : x.1 ∈ fst1 pl := List.mem_map.mpr ⟨x, hx, rfl⟩
    rw [show fst1 pl = _ from e2] at this
    exact pq_mem this
  · have := congrArg List.length e2
    rw [List.length_map, List.length_map, rangeN n h0] at this
    omega
theorem tl_join0 : ∀ ps : List Str, tl (Str.join (Str.ofString "") ps) = ps.flatMap tl
  | [] => rfl
  | [x] => by simp [Str.join]
  | x :: y :: r => by
    have ih := tl_join0 (y :: r)
    show tl (x ++ Str.ofString "" ++ Str.join _ (y :: r)) = _
    rw [tl_app, tl_app, ih]
    have : tl (Str.ofString "") = [] := by decide +kernel
    rw [this]; simp
theorem tl_first (s0 s1 : Str) (P : List Int) : tl (Txt.join (Str.ofString "") (List.map (sgn s0 s1) P)) = P.flatMap (spLet s0 s1) := by
  show tl (glued _ _) = _
  rw [glued_eq_join, tl_join0, List.flatMap_map]
  congr 1
  funext x
  unfold sgn spLet tl
  split <;> rfl
theorem foldl_app (w : Array Nat) : ∀ (n : Nat) (acc : Array Nat), ((List.replicate n w).foldl (· ++ ·) acc).toList = acc.toList ++ rep n w.toList
  | 0, acc => by simp [rep]
  | n + 1, acc => by rw [List.replicate_succ, List.foldl_cons, foldl_app w n, rep_succ, Array.toList_append, List.append_assoc]
theorem tl_mul (x : Str) {n : Int} (h : 0 ≤ n) : tl (Txt.mul x n) = rep n.toNat (tl x) := by
  unfold Txt.mul
  by_cases h0 : n < 1
  · have : n = 0 := by omega
    subst this
    rfl
  rw [if_neg h0]
  by_cases h1 : (n == 1 || x.length == 0) = true
  · rw [if_pos h1]
    simp only [Bool.or_eq_true, beq_iff_eq] at h1
    rcases h1 with h1 | h1
    · subst h1; exact (rep_one _).symm
    · have := len0_tl h1
      rw [this]; simp [rep]
  · rw [if_neg h1]
    show ((List.replicate n.toNat x.cps).foldl (· ++ ·) #[]).toList = _
    rw [foldl_app]; simp
theorem unq_dq : ∀ (t e : List Nat), unq e = [] → (e = [] ∨ e.head? = some 34 ∧ e[1]? ≠ some 34) → unq (dq t ++ e) = t
  | [], e, h, _ => by simpa [dq, dbl] using h
  | a :: r, e, h, h2 => by
    have ih := unq_dq r e h h2
    by_cases ha : a = 34
    · subst ha; rw [dq_q, List.cons_append, List.cons_append, unq_two, ih]
    · rw [dq_o ha, List.cons_append, unq_other ha, ih]
theorem slice_mid {x : Str} {a b : Nat} (h : a ≤ b ∧ b ≤ x.length) : tl (Txt.slice x (some (a : Int)) (some (b : Int))) = ((tl x).drop a).take (b - a) := by
  have hx := tl_len x
  rw [slice_txt, sliceText_plain ⟨by omega, by omega, by simp only [tl] at hx; omega⟩]
  show List.take _ (List.drop _ (tl x)) = _
  congr 1
  omega
theorem bne_tl {x y : Str} (h : tl x = tl y) : (x != y) = false := by
  rw [tl_inj h]; simp
theorem tl_257 : tl (Str.ofString "257 \"") = [50, 53, 55, 32, 34] := by decide +kernel
/-- a reply is read -/
theorem reply_ok {t : List Nat} {wr e resp : Str} (hw : tl wr = dq t) (he : unq (tl e) = [] ∧ (tl e = [] ∨ (tl e).head? = some 34 ∧ (tl e)[1]? ≠ some 34)) (hr : resp = Str.ofString "257 \"" ++ wr ++ e) :
    (Txt.slice resp none (some 3) != Str.ofString "257") = false ∧ (Txt.slice resp (some 3) (some 5) != Str.ofString " \"") = false ∧ PwInv resp t 5 Str.empty := by
  have ht : tl resp = [50, 53, 55, 32, 34] ++ dq t ++ tl e := by rw [hr, tl_app, tl_app, tl_257, hw]
  have hl := tl_len resp
  have h5 : 5 ≤ resp.length := by rw [← hl, ht]; simp
  refine ⟨bne_tl ?_, bne_tl ?_, ⟨h5, Nat.zero_le _, ?_⟩⟩
  · rw [slice_to ⟨by omega, by omega⟩, ht]
    have : tl (Str.ofString "257") = [50, 53, 55] := by decide +kernel
    rw [this]; rfl
  · have := slice_mid (x := resp) (a := 3) (b := 5) ⟨by omega, h5⟩
    have e2 : tl (Str.ofString " \"") = [32, 34] := by decide +kernel
    rw [e2, show ((3 : Nat) : Int) = 3 from rfl, show ((5 : Nat) : Int) = 5 from rfl] at *
    rw [this, ht]; rfl
  · show [] ++ unq ((tl resp).drop 5) = t
    rw [ht]
    exact unq_dq t (tl e) he.1 he.2
theorem end_ok {e : Str} (h : e = Str.ofString "" ∨ e = Str.ofString "\"" ∨ e = Str.ofString "\" \"again\"") : e.length ≤ 9 ∧ unq (tl e) = [] ∧ (tl e = [] ∨ (tl e).head? = some 34 ∧ (tl e)[1]? ≠ some 34) := by
  have e1 : tl (Str.ofString "") = [] := by decide +kernel
  have e2 : tl (Str.ofString "\"") = [34] := by decide +kernel
  have e3 : tl (Str.ofString "\" \"again\"") = [34, 32, 34, 97, 103, 97, 105, 110, 34] := by decide +kernel
  rcases h with rfl | rfl | rfl
  · exact ⟨by rw [← tl_len, e1]; decide, by rw [e1]; rfl, .inl e1⟩
  · exact ⟨by rw [← tl_len, e2]; decide, by rw [e2]; rfl, .inr (by rw [e2]; decide)⟩
  · exact ⟨by rw [← tl_len, e3]; decide, by rw [e3]; rfl, .inr (by rw [e3]; decide)⟩
theorem dq_len : ∀ t : List Nat, (dq t).length ≤ 2 * t.length
  | [] => Nat.le_refl _
  | a :: r => by
    have ih := dq_len r
    by_cases ha : a = 34
    · subst ha; rw [dq_q]; simp only [List.length_cons]; omega
    · rw [dq_o ha]; simp only [List.length_cons]; omega
theorem dq_len' : ∀ t : List Nat, t.length ≤ (dq t).length
  | [] => Nat.le_refl _
  | a :: r => by
    have ih := dq_len' r
    by_cases ha : a = 34
    · subst ha; rw [dq_q]; simp only [List.length_cons]; omega
    · rw [dq_o ha]; simp only [List.length_cons]; omega
theorem dq_dot : ∀ t : List Nat, 46 ∉ t → 46 ∉ dq t
  | [], _ => by simp [dq, dbl]
  | a :: r, h => by
    have ih := dq_dot r fun hm => h (.tail _ hm)
    have ha : a ≠ 46 := fun e => h (e ▸ .head _)
    by_cases h1 : a = 34
    · subst h1; rw [dq_q]; simp only [List.mem_cons, not_or]; exact ⟨by decide, by decide, ih⟩
    · rw [dq_o h1]; simp only [List.mem_cons, not_or]; exact ⟨Ne.symm ha, ih⟩
theorem wr_ok {t wr : Str} (h : wr = Txt.replace t (Str.ofString "\"") (Str.ofString "\"\"")) : tl wr = dq (tl t) := by
  rw [h, replace_dbl t _ _ 34 quote_eq (by decide +kernel)]
/-- the pile at the start -/
theorem sp_start {pl ql : List (Int × Tok)} {s0 s1 : Str} {i j : Nat} {t1 t2 : Tok} (hi : i ≤ 4) (hj : j ≤ 4) (hp : pl.length ≤ 4) (hq : ql.length ≤ 4) :
    SpInv (fst1 pl) (fst1 ql) s0 s1 (rep i ((fst1 pl).reverse.flatMap (spLet s0 s1)) ++ rep j ((fst1 ql).reverse.flatMap (spLet s0 s1))) (List.replicate i (256, t1) ++ List.replicate j (257, t2)) Str.empty := by
  refine ⟨fun x hx => ?_, ?_, ?_⟩
  · rcases List.mem_append.mp hx with h | h
    · rw [List.eq_of_mem_replicate h]; simp
    · rw [List.eq_of_mem_replicate h]; simp
  · simp only [spSum, List.map_append, List.map_replicate, List.sum_append, List.sum_replicate_nat, spWt, fst1, List.length_map]
    simp
    have : i * (1 + pl.length) ≤ 4 * 5 := Nat.mul_le_mul hi (by omega)
    have : j * (1 + ql.length) ≤ 4 * 5 := Nat.mul_le_mul hj (by omega)
    omega
  · simp only [List.map_append, List.map_replicate, List.flatMap_append]
    have : ∀ (k : Nat) (x : Int), (List.replicate k x).flatMap (spSym (fst1 pl) (fst1 ql) s0 s1) = rep k (spSym (fst1 pl) (fst1 ql) s0 s1 x) := by
      intro k x
      unfold rep
      rw [List.flatMap_def, List.map_replicate]
    rw [this, this]
    simp [spSym]
    rfl
theorem let_facts {c : Nat} (hc : c ≠ 46) : ∀ l : List Int, (l.flatMap (spLet (Str.ofString "\"") ⟨#[c]⟩)).length = l.length ∧ 46 ∉ l.flatMap (spLet (Str.ofString "\"") ⟨#[c]⟩)
  | [] => ⟨rfl, by simp⟩
  | a :: r => by
    obtain ⟨h1, h2⟩ := let_facts hc r
    rw [List.flatMap_cons, List.length_append, List.mem_append, h1]
    have h3 : (spLet (Str.ofString "\"") ⟨#[c]⟩ a).length = 1 ∧ 46 ∉ spLet (Str.ofString "\"") ⟨#[c]⟩ a := by
      unfold spLet
      split
      · decide +kernel
      · exact ⟨rfl, by simp; exact Ne.symm hc⟩
    exact ⟨by rw [h3.1, List.length_cons]; omega, fun h => h.elim h3.2 h2⟩
structure LawW (U V : List Nat) : Prop where
  chk : chkw U V = true
  lu : 1 ≤ U.length ∧ U.length ≤ 3
  lv : 1 ≤ V.length ∧ V.length ≤ 4
  du : 46 ∉ U
  dv : 46 ∉ V
theorem lawW_of {c9 : Int} {pl ql : List (Int × Tok)} (h9 : c9 = 10 ∨ (47 ≤ c9 ∧ c9 ≤ 50046)) (dpl : ∀ x ∈ pl, x.1 = 254 ∨ x.1 = 255) (dql : ∀ x ∈ ql, x.1 = 254 ∨ x.1 = 255)
    (lp1 : 1 ≤ pl.length) (lp3 : (pl.length : Int) ≤ 3) (lq1 : 1 ≤ ql.length) (lq4 : (ql.length : Int) ≤ 4) :
    LawW ((fst1 pl).flatMap (spLet (Str.ofString "\"") ⟨#[c9.toNat]⟩)) ((fst1 ql).flatMap (spLet (Str.ofString "\"") ⟨#[c9.toNat]⟩)) := by
  have hc : c9.toNat ≠ 46 := by omega
  have h1 := let_facts hc (fst1 pl)
  have h2 := let_facts hc (fst1 ql)
  have e1 : (fst1 pl).length = pl.length := List.length_map _
  have e2 : (fst1 ql).length = ql.length := List.length_map _
  have d : ∀ {l : List (Int × Tok)}, (∀ x ∈ l, x.1 = 254 ∨ x.1 = 255) → ∀ x ∈ fst1 l, x = 254 ∨ x = 255 := by
    intro l h x hx
    obtain ⟨y, hy, rfl⟩ := List.mem_map.mp hx
    exact h y hy
  exact ⟨law_words (s := c9.toNat) (by decide +kernel) rfl (by omega) (d dpl) (d dql) (by omega) (by omega), by omega, by omega, h1.2, h2.2⟩
theorem iv_snoc (l : List (Int × Tok)) (x : Int) (t : Tok) : iv l ++ [Value.int x t] = iv (l ++ [(x, t)]) := by simp [iv]
section
variable {prog : Program} {w : World} {A : Around} {E : Value → Shared → Prop} {s : Shared} {h₀ : Heap} {L D : Addr} {news : List (Addr × Obj)} {n : Nat} {vs : List Value}
theorem len_led {N9 : Nat} {Q : Value → Shared → Prop} (N : News h₀ L s.heap news) (hm : (D, listOf vs.toArray n) ∈ news) (hv : vs.length = N9) (hz : N9 ≤ 100000) (h : ∀ t k, Q (.int (N9 : Int) t) { s with toks := k }) : wpAny (model prog w) A (call (.builtin "len") [.ref D]) Q E s := by
  have hl : s.heap.IsList D vs.toArray := ⟨_, (N _ hm).1, rfl, n, rfl⟩
  refine len_list hl (by simp; omega) ?_
  simp only [List.size_toArray, hv]
  exact h _ _
end
end Mine
end
section
open PySem PySem.W PyProof.Rows PySem.Calls
set_option linter.unusedVariables false
set_option maxRecDepth 100000
namespace Mine
section
variable {prog : Program} {w : World} {A : Around} {E : Value → Shared → Prop} {s : Shared} {env : Env} {h₀ : Heap} {L : Addr} {body : List Stmt} {Q : Flow → Shared → Prop}
def OutJ (S : Addr) (U V : List Nat) (rest : List (Addr × Obj)) (m₀ : Str → Option Value) (_ : List (Addr × Obj)) (i : Nat) (m : Str → Option Value) (nx : List (Addr × Obj)) : Prop :=
  ∃ (l : List (Int × Tok)) (n : Nat) (us : Str → Option Value), nx = (S, listOf (iv l).toArray n) :: rest ∧ l.map (·.1) = outw U V i ∧
    m = fun z => if z = Str.ofString "i" then us (Str.ofString "i") else if z = Str.ofString "j" then us (Str.ofString "j") else if z = Str.ofString "pile" then us (Str.ofString "pile") else if z = Str.ofString "text" then us (Str.ofString "text")
      else if z = Str.ofString "written" then us (Str.ofString "written") else if z = Str.ofString "end" then us (Str.ofString "end") else if z = Str.ofString "over" then us (Str.ofString "over") else if z = Str.ofString "twice" then us (Str.ofString "twice") else m₀ z
theorem up8 {m' m₀ : Str → Option Value} {a b c d e f g h : Str} (ho : ∀ z, z ≠ a → z ≠ b → z ≠ c → z ≠ d → z ≠ e → z ≠ f → z ≠ g → z ≠ h → m' z = m₀ z) :
    m' = fun z => if z = a then m' a else if z = b then m' b else if z = c then m' c else if z = d then m' d else if z = e then m' e else if z = f then m' f else if z = g then m' g else if z = h then m' h else m₀ z := by
  funext z
  by_cases h1 : z = a
  · rw [if_pos h1, h1]
  rw [if_neg h1]
  by_cases h2 : z = b
  · rw [if_pos h2, h2]
  rw [if_neg h2]
  by_cases h3 : z = c
  · rw [if_pos h3, h3]
  rw [if_neg h3]
  by_cases h4 : z = d
  · rw [if_pos h4, h4]
  rw [if_neg h4]
  by_cases h5 : z = e
  · rw [if_pos h5, h5]
  rw [if_neg h5]
  by_cases h6 : z = f
  · rw [if_pos h6, h6]
  rw [if_neg h6]
  by_cases h7 : z = g
  · rw [if_pos h7, h7]
  rw [if_neg h7]
  by_cases h8 : z = h
  · rw [if_pos h8, h8]
  rw [if_neg h8]
  exact ho z h1 h2 h3 h4 h5 h6 h7 h8
theorem out_iter {S r : Addr} {n0 : Nat} {t₀ u₀ v₀ : Tok} {U V : List Nat} {rest : List (Addr × Obj)} {m₀ : Str → Option Value}
    (hh : A.handled = none) (hr : IsRange s.heap r 1 4 1 t₀ u₀ v₀) (F : Fr h₀ env.locals s.heap m₀) (N : News h₀ env.locals s.heap ((S, listOf #[] n0) :: rest))
    (turn : ∀ i t l n (us : Str → Option Value) h tk I oI, i < 3 → l.map (·.1) = outw U V i → S ≠ I → (∀ p ∈ rest, p.1 ≠ I) → (∀ p ∈ (S, listOf #[] n0) :: rest, p.1 < I) →
      Fr h₀ env.locals h (fun z => if z = Str.ofString "i" then some (.int (1 + (i : Int)) t) else if z = Str.ofString "j" then us (Str.ofString "j") else if z = Str.ofString "pile" then us (Str.ofString "pile") else if z = Str.ofString "text" then us (Str.ofString "text")
      else if z = Str.ofString "written" then us (Str.ofString "written") else if z = Str.ofString "end" then us (Str.ofString "end") else if z = Str.ofString "over" then us (Str.ofString "over") else if z = Str.ofString "twice" then us (Str.ofString "twice") else m₀ z) →
      News h₀ env.locals h ((I, oI) :: (S, listOf (iv l).toArray n) :: rest) →
      wpAny (model prog w) A (execs body env) (RgPost h₀ env.locals (OutJ S U V rest m₀ [] (i + 1)) I oI { s with heap := h, toks := tk } Q) E { s with heap := h, toks := tk })
    (done : ∀ l n (us : Str → Option Value) h tk, l.map (·.1) = outw U V 3 →
      Fr h₀ env.locals h (fun z => if z = Str.ofString "i" then us (Str.ofString "i") else if z = Str.ofString "j" then us (Str.ofString "j") else if z = Str.ofString "pile" then us (Str.ofString "pile") else if z = Str.ofString "text" then us (Str.ofString "text")
      else if z = Str.ofString "written" then us (Str.ofString "written") else if z = Str.ofString "end" then us (Str.ofString "end") else if z = Str.ofString "over" then us (Str.ofString "over") else if z = Str.ofString "twice" then us (Str.ofString "twice") else m₀ z) →
      News h₀ env.locals h ((S, listOf (iv l).toArray n) :: rest) → Q .next { s with heap := h, toks := tk }) :
    wpAny (model prog w) A (pyIter (.ref r)) (fun it s₂ => LoopAtV prog w A h₀ env (Str.ofString "i") body Q E it s₂) E s := by
  refine iter_rng (fun m₀ _ => OutJ S U V rest m₀ []) (n := 3) hh hr (by decide) (range_n (by decide)) F N ⟨[], n0, m₀, rfl, rfl, up8 (fun _ _ _ _ _ _ _ _ _ => rfl)⟩ ?_ ?_
  · rintro i t m₁ nx h tk I oI hi ⟨l, n, us, rfl, hl, rfl⟩ hne low F' N'
    refine turn i t l n us h tk I oI hi hl (hne _ (.head _)) (fun p hp => hne p (.tail _ hp)) low ?_ N'
    have e : (fun y => if y = Str.ofString "i" then some (Value.int (1 + (i : Int)) t) else (fun z => if z = Str.ofString "i" then us (Str.ofString "i") else if z = Str.ofString "j" then us (Str.ofString "j") else if z = Str.ofString "pile" then us (Str.ofString "pile") else if z = Str.ofString "text" then us (Str.ofString "text")
      else if z = Str.ofString "written" then us (Str.ofString "written") else if z = Str.ofString "end" then us (Str.ofString "end") else if z = Str.ofString "over" then us (Str.ofString "over") else if z = Str.ofString "twice" then us (Str.ofString "twice") else m₀ z) y)
      = fun z => if z = Str.ofString "i" then some (.int (1 + (i : Int)) t) else if z = Str.ofString "j" then us (Str.ofString "j") else if z = Str.ofString "pile" then us (Str.ofString "pile") else if z = Str.ofString "text" then us (Str.ofString "text")
      else if z = Str.ofString "written" then us (Str.ofString "written") else if z = Str.ofString "end" then us (Str.ofString "end") else if z = Str.ofString "over" then us (Str.ofString "over") else if z = Str.ofString "twice" then us (Str.ofString "twice") else m₀ z := by
      funext y
      by_cases h1 : y = Str.ofString "i"
      · rw [if_pos h1, if_pos h1]
      · rw [if_neg h1, if_neg h1]; dsimp only; rw [if_neg h1]
    rw [← e]; exact F'
  · rintro m₁ nx h tk ⟨l, n, us, rfl, hl, rfl⟩ F' N'
    exact done l n us h tk hl F' N'
theorem out_end {S I : Addr} {oI : Obj} {U V : List Nat} {rest news led : List (Addr × Obj)} {i n : Nat} {l : List (Int × Tok)} {m₀ m' : Str → Option Value} {s₁ : Shared} {h' : Heap} {tk : Nat}
    (F : Fr h₀ L h' m') (N : News h₀ L h' led) (hs : ∀ p ∈ (I, oI) :: (S, listOf (iv l).toArray n) :: rest, p ∈ led) (h1 : S ≠ I) (h2 : ∀ p ∈ rest, p.1 ≠ I) (hl : l.map (·.1) = outw U V (i + 1))
    (ho : ∀ z, z ≠ Str.ofString "i" → z ≠ Str.ofString "j" → z ≠ Str.ofString "pile" → z ≠ Str.ofString "text" → z ≠ Str.ofString "written" → z ≠ Str.ofString "end" → z ≠ Str.ofString "over" → z ≠ Str.ofString "twice" → m' z = m₀ z) :
    RgEnd h₀ L (OutJ S U V rest m₀ news (i + 1)) I oI s₁ { s₁ with heap := h', toks := tk } :=
  .intro F N hs (List.forall_mem_cons.mpr ⟨h1, h2⟩) ⟨l, n, m', rfl, hl, up8 ho⟩

def InJ (S : Addr) (O : Addr × Obj) (U V : List Nat) (rest : List (Addr × Obj)) (i : Nat) (m₀ : Str → Option Value) (_ : List (Addr × Obj)) (j : Nat) (m : Str → Option Value) (nx : List (Addr × Obj)) : Prop :=
  ∃ (l : List (Int × Tok)) (n : Nat) (us : Str → Option Value), nx = O :: (S, listOf (iv l).toArray n) :: rest ∧ l.map (·.1) = outw U V i ++ inn U V i j ∧
    m = fun z => if z = Str.ofString "j" then us (Str.ofString "j") else if z = Str.ofString "j" then us (Str.ofString "j") else if z = Str.ofString "pile" then us (Str.ofString "pile") else if z = Str.ofString "text" then us (Str.ofString "text")
      else if z = Str.ofString "written" then us (Str.ofString "written") else if z = Str.ofString "end" then us (Str.ofString "end") else if z = Str.ofString "over" then us (Str.ofString "over") else if z = Str.ofString "twice" then us (Str.ofString "twice") else m₀ z
theorem in_iter {S r : Addr} {O : Addr × Obj} {n0 i : Nat} {b : Int} {t₀ u₀ v₀ : Tok} {l0 : List (Int × Tok)} {U V : List Nat} {rest : List (Addr × Obj)} {m₀ : Str → Option Value}
    (hh : A.handled = none) (hr : IsRange s.heap r 1 b 1 t₀ u₀ v₀) (hi : i < 3) (hb : b = 5 - (1 + (i : Int))) (F : Fr h₀ env.locals s.heap m₀) (N : News h₀ env.locals s.heap (O :: (S, listOf (iv l0).toArray n0) :: rest)) (hl0 : l0.map (·.1) = outw U V i)
    (turn : ∀ j t l n (us : Str → Option Value) h tk I oI, j < 3 - i → l.map (·.1) = outw U V i ++ inn U V i j → O.1 ≠ I → S ≠ I → (∀ p ∈ rest, p.1 ≠ I) → (∀ p ∈ O :: (S, listOf (iv l0).toArray n0) :: rest, p.1 < I) →
      Fr h₀ env.locals h (fun z => if z = Str.ofString "j" then some (.int (1 + (j : Int)) t) else if z = Str.ofString "j" then us (Str.ofString "j") else if z = Str.ofString "pile" then us (Str.ofString "pile") else if z = Str.ofString "text" then us (Str.ofString "text")
      else if z = Str.ofString "written" then us (Str.ofString "written") else if z = Str.ofString "end" then us (Str.ofString "end") else if z = Str.ofString "over" then us (Str.ofString "over") else if z = Str.ofString "twice" then us (Str.ofString "twice") else m₀ z) →
      News h₀ env.locals h ((I, oI) :: O :: (S, listOf (iv l).toArray n) :: rest) →
      wpAny (model prog w) A (execs body env) (RgPost h₀ env.locals (InJ S O U V rest i m₀ [] (j + 1)) I oI { s with heap := h, toks := tk } Q) E { s with heap := h, toks := tk })
    (done : ∀ l n (us : Str → Option Value) h tk, l.map (·.1) = outw U V (i + 1) →
      Fr h₀ env.locals h (fun z => if z = Str.ofString "j" then us (Str.ofString "j") else if z = Str.ofString "j" then us (Str.ofString "j") else if z = Str.ofString "pile" then us (Str.ofString "pile") else if z = Str.ofString "text" then us (Str.ofString "text")
      else if z = Str.ofString "written" then us (Str.ofString "written") else if z = Str.ofString "end" then us (Str.ofString "end") else if z = Str.ofString "over" then us (Str.ofString "over") else if z = Str.ofString "twice" then us (Str.ofString "twice") else m₀ z) →
      News h₀ env.locals h (O :: (S, listOf (iv l).toArray n) :: rest) → Q .next { s with heap := h, toks := tk }) :
    wpAny (model prog w) A (pyIter (.ref r)) (fun it s₂ => LoopAtV prog w A h₀ env (Str.ofString "j") body Q E it s₂) E s := by
  have hsm : Builtin.Range.small 1 b 1 = true := by
    have : i = 0 ∨ i = 1 ∨ i = 2 := by omega
    rcases this with rfl | rfl | rfl <;> (subst hb; decide)
  refine iter_rng (fun m₀ _ => InJ S O U V rest i m₀ []) (n := 3 - i) hh hr hsm (range_n (by omega)) F N ⟨l0, n0, m₀, rfl, by rw [hl0]; simp [inn_zero], up8 (fun _ _ _ _ _ _ _ _ _ => rfl)⟩ ?_ ?_
  · rintro j t m₁ nx h tk I oI hj ⟨l, n, us, rfl, hl, rfl⟩ hne low F' N'
    refine turn j t l n us h tk I oI hj hl (hne _ (.head _)) (hne _ (.tail _ (.head _))) (fun p hp => hne p (.tail _ (.tail _ hp))) low ?_ N'
    have e : (fun y => if y = Str.ofString "j" then some (Value.int (1 + (j : Int)) t) else (fun z => if z = Str.ofString "j" then us (Str.ofString "j") else if z = Str.ofString "j" then us (Str.ofString "j") else if z = Str.ofString "pile" then us (Str.ofString "pile") else if z = Str.ofString "text" then us (Str.ofString "text")
      else if z = Str.ofString "written" then us (Str.ofString "written") else if z = Str.ofString "end" then us (Str.ofString "end") else if z = Str.ofString "over" then us (Str.ofString "over") else if z = Str.ofString "twice" then us (Str.ofString "twice") else m₀ z) y)
      = fun z => if z = Str.ofString "j" then some (.int (1 + (j : Int)) t) else if z = Str.ofString "j" then us (Str.ofString "j") else if z = Str.ofString "pile" then us (Str.ofString "pile") else if z = Str.ofString "text" then us (Str.ofString "text")
      else if z = Str.ofString "written" then us (Str.ofString "written") else if z = Str.ofString "end" then us (Str.ofString "end") else if z = Str.ofString "over" then us (Str.ofString "over") else if z = Str.ofString "twice" then us (Str.ofString "twice") else m₀ z := by
      funext y
      by_cases h1 : y = Str.ofString "j"
      · rw [if_pos h1, if_pos h1]
      · rw [if_neg h1, if_neg h1]; dsimp only; rw [if_neg h1]
    rw [← e]; exact F'
  · rintro m₁ nx h tk ⟨l, n, us, rfl, hl, rfl⟩ F' N'
    exact done l n us h tk (by rw [hl, ← outw_succ]) F' N'
theorem in_end {S I : Addr} {oI : Obj} {O : Addr × Obj} {U V : List Nat} {rest news led : List (Addr × Obj)} {i j n : Nat} {l : List (Int × Tok)} {m₀ m' : Str → Option Value} {s₁ : Shared} {h' : Heap} {tk : Nat}
    (F : Fr h₀ L h' m') (N : News h₀ L h' led) (hs : ∀ p ∈ (I, oI) :: O :: (S, listOf (iv l).toArray n) :: rest, p ∈ led) (h0 : O.1 ≠ I) (h1 : S ≠ I) (h2 : ∀ p ∈ rest, p.1 ≠ I) (hl : l.map (·.1) = outw U V i ++ inn U V i (j + 1))
    (ho : ∀ z, z ≠ Str.ofString "j" → z ≠ Str.ofString "pile" → z ≠ Str.ofString "text" → z ≠ Str.ofString "written" → z ≠ Str.ofString "end" → z ≠ Str.ofString "over" → z ≠ Str.ofString "twice" → m' z = m₀ z) :
    RgEnd h₀ L (InJ S O U V rest i m₀ news (j + 1)) I oI s₁ { s₁ with heap := h', toks := tk } :=
  .intro F N hs (List.forall_mem_cons.mpr ⟨h0, List.forall_mem_cons.mpr ⟨h1, h2⟩⟩) ⟨l, n, m', rfl, hl, up8 (fun z a _ => ho z a)⟩
end
end Mine
end
section
open PySem PySem.W PyProof.Rows PySem.Calls
set_option linter.unusedVariables false
set_option maxRecDepth 100000
namespace Mine
section
variable {prog : Program} {w : World} {A : Around} {E : Value → Shared → Prop} {s : Shared} {h₀ : Heap} {L a b D : Addr} {m : Str → Option Value} {news : List (Addr × Obj)} {n n2 : Nat}
theorem mul_led {x c : Int} {t u : Tok} {Q : Value → Shared → Prop} (F : Fr h₀ L s.heap m) (N : News h₀ L s.heap news) (hm : (D, listOf [Value.int c t].toArray n) ∈ news) (h0 : 0 ≤ x) (h1 : x ≤ 100)
    (h : ∀ D h', Fr h₀ L h' m → News h₀ L h' ((D, listOf (iv (List.replicate x.toNat (c, t))).toArray 0) :: news) → (∀ p ∈ news, p.1 < D) → Q (.ref D) { s with heap := h' }) : wpAny (model prog w) A (binaryOp .Mult (.ref D) (.int x u)) Q E s := by
  have hl : s.heap.IsList D [Value.int c t].toArray := ⟨_, (N _ hm).1, rfl, n, rfl⟩
  refine KMa.mul F N hl (by omega) (by omega) (by simp; omega) ?_ h
  simp [iv, List.flatten_replicate_singleton]
theorem add_led {l1 l2 : List (Int × Tok)} {Q : Value → Shared → Prop} (F : Fr h₀ L s.heap m) (N : News h₀ L s.heap news) (ha : (a, listOf (iv l1).toArray n) ∈ news) (hb : (b, listOf (iv l2).toArray n2) ∈ news) (hz : l1.length + l2.length ≤ 10000)
    (h : ∀ D h', Fr h₀ L h' m → News h₀ L h' ((D, listOf (iv (l1 ++ l2)).toArray 0) :: news) → (∀ p ∈ news, p.1 < D) → Q (.ref D) { s with heap := h' }) : wpAny (model prog w) A (binaryOp .Add (.ref a) (.ref b)) Q E s := by
  have h1 : s.heap.IsList a (iv l1).toArray := ⟨_, (N _ ha).1, rfl, n, rfl⟩
  have h2 : s.heap.IsList b (iv l2).toArray := ⟨_, (N _ hb).1, rfl, n2, rfl⟩
  refine kmk_add_lit F N h1 h2 (iv_append l1 l2).symm h ?_
  simp only [iv_len, sizeLine_eq]; omega
/-- one of three written texts -/
theorem menu_led {value slice : Expr} {k : Int} {u : Tok} {x y z : Str} {t1 t2 t3 : Tok} {Q : Value → Shared → Prop} (N : News h₀ L s.heap news) (hm : (D, listOf [Value.str x t1, Value.str y t2, Value.str z t3].toArray n) ∈ news) (h0 : 0 ≤ k) (hk : k < 3)
    (h : ∀ e t, e = x ∨ e = y ∨ e = z → Q (.str e t) s)
    (hs : subscripted slice false (.ref D) (.int k u) = operate [.ref D, .int k u] (getItem (.ref D) (.int k u)) := by with_unfolding_all rfl) :
    wpAny (model prog w) A (subscriptTail value slice (.ref D) (.int k u)) Q E s := by
  have hk' : k = 0 ∨ k = 1 ∨ k = 2 := by omega
  rcases hk' with rfl | rfl | rfl
  · exact item_led N hm (by decide) (by decide) rfl (h _ _ (.inl rfl)) hs
  · exact item_led N hm (by decide) (by decide) rfl (h _ _ (.inr (.inl rfl))) hs
  · exact item_led N hm (by decide) (by decide) rfl (h _ _ (.inr (.inr rfl))) hs
theorem rev_led {l : List (Int × Tok)} {value slice : PySem.Expr} {vk : Value} {ops : List Value} {Q : Value → Shared → Prop} (F : Fr h₀ L s.heap m) (N : News h₀ L s.heap news) (hm : (D, listOf (iv l).toArray n) ∈ news) (pk : IsPart vk (some (-1)))
    (h : ∀ D h', Fr h₀ L h' m → News h₀ L h' ((D, listOf (iv l.reverse).toArray 0) :: news) → (∀ p ∈ news, p.1 < D) → Q (.ref D) { s with heap := h' })
    (hs : subscripted slice false (.ref D) (.ref s.heap.objs.size) = operate ops (getItem (.ref D) (.ref s.heap.objs.size))) (ht : ∀ r, letTemporaryGo value (.ref D) r = pure ()) (hz : l.length ≤ 1000) :
    wpAny (model prog w) A (subscriptTail value slice (.ref D) (.ref s.heap.objs.size)) Q E { s with heap := s.heap.push { cls := .type "slice", data := .fields #[.none, .none, vk] } } :=
  krv_lit (its := (iv l).toArray) F N ⟨_, (N _ hm).1, rfl, n, rfl⟩ pk (by simp [iv]) h hs ht (by simp only [List.size_toArray, iv_len, sizeLine_eq]; omega)
end
theorem pile_eq (z x y : Int × Tok) (a b : Nat) : iv ([z] ++ List.replicate a x ++ List.replicate b y) = iv (z :: (List.replicate b y ++ List.replicate a x).reverse) := by simp
theorem news_4 {h₀ h : Heap} {L : Addr} {a b c d : Addr × Obj} {r : List (Addr × Obj)} (N : News h₀ L h (a :: b :: c :: d :: r)) : News h₀ L h (d :: a :: b :: c :: r) := fun p hp => N p (by
  simp only [List.mem_cons] at hp ⊢
  rcases hp with h | h | h | h | h <;> simp [h])
theorem sp_go {pl ql : List (Int × Tok)} {s0 s1 : Str} {U V : List Nat} {a b i j : Nat} {t1 t2 : Tok} (hU : (fst1 pl).flatMap (spLet s0 s1) = U) (hV : (fst1 ql).flatMap (spLet s0 s1) = V) (ha : a = 1 + i) (hb : b = 1 + j) (hi : i < 3) (hj : j < 3) (hp : pl.length ≤ 4) (hq : ql.length ≤ 4) :
    SpInv (fst1 pl.reverse) (fst1 ql.reverse) s0 s1 (rep (1 + i) U ++ rep (1 + j) V) (List.replicate a (256, t1) ++ List.replicate b (257, t2)) Str.empty := by
  have h := sp_start (pl := pl.reverse) (ql := ql.reverse) (s0 := s0) (s1 := s1) (i := a) (j := b) (t1 := t1) (t2 := t2) (by omega) (by omega) (by simpa using hp) (by simpa using hq)
  have e1 : (fst1 pl.reverse).reverse = fst1 pl := by simp [fst1]
  have e2 : (fst1 ql.reverse).reverse = fst1 ql := by simp [fst1]
  rw [e1, e2, hU, hV, ha, hb] at h
  rw [ha, hb]
  exact h
structure TxOk (U V : List Nat) (i j : Nat) (tx : Str) : Prop where
  eq : tl tx = rep (1 + i) U ++ rep (1 + j) V
  lo : 2 ≤ tx.length
  hi : tx.length ≤ 21
  dot : 46 ∉ tl tx
theorem rep_dot {u : List Nat} (h : 46 ∉ u) : ∀ k, 46 ∉ rep k u
  | 0 => by simp [rep]
  | k + 1 => by rw [rep_succ, List.mem_append]; exact fun x => x.elim h (rep_dot h k)
theorem txOk_of {U V : List Nat} {i j : Nat} {tx : Str} (H : LawW U V) (hi : i < 3) (hj : j < 3 - i) (e : tl tx = rep (1 + i) U ++ rep (1 + j) V) : TxOk U V i j tx := by
  have hl := congrArg List.length e
  rw [tl_len, List.length_append, rep_len, rep_len] at hl
  have h1 := H.lu
  have h2 := H.lv
  have a1 : (1 + i) * 1 ≤ (1 + i) * U.length := Nat.mul_le_mul_left _ h1.1
  have a2 : (1 + i) * U.length ≤ (1 + i) * 3 := Nat.mul_le_mul_left _ h1.2
  have b1 : (1 + j) * 1 ≤ (1 + j) * V.length := Nat.mul_le_mul_left _ h2.1
  have b2 : (1 + j) * V.length ≤ (1 + j) * 4 := Nat.mul_le_mul_left _ h2.2
  exact ⟨e, by omega, by omega, by rw [e, List.mem_append]; exact fun x => x.elim (rep_dot H.du _) (rep_dot H.dv _)⟩
section
variable {U V : List Nat} {i j : Nat} {tx fi se : Str}
theorem tx_says (H : TxOk U V i j tx) (h1 : tl fi = U) (h2 : tl se = V) : (tx != Txt.mul fi (1 + (i : Int)) ++ Txt.mul se (1 + (j : Int))) = false := by
  refine bne_tl ?_
  rw [tl_app, tl_mul _ (by omega), tl_mul _ (by omega), h1, h2, H.eq]
  congr 2 <;> omega
theorem tx_read (tx : Str) : ((⟨(tl tx).toArray⟩ : Str) != tx) = false := bne_tl rfl
structure WrOk (tx wr : Str) : Prop where
  eq : tl wr = dq (tl tx)
  lo : 2 ≤ wr.length
  hi : wr.length ≤ 42
  dot : 46 ∉ tl wr
theorem wrOk_of {wr : Str} (H : TxOk U V i j tx) (h : tl wr = dq (tl tx)) : WrOk tx wr := by
  have h1 := dq_len (tl tx)
  have h2 := dq_len' (tl tx)
  rw [← h, tl_len, tl_len] at h1 h2
  have a := H.lo
  have b := H.hi
  exact ⟨h, by omega, by omega, by rw [h]; exact dq_dot _ H.dot⟩
theorem wr_twice {wr : Str} (H : TxOk U V i j tx) (W : WrOk tx wr) : ellM (Str.ofString "..." ++ wr ++ Str.ofString "...") (Txt.slice (wr ++ wr) (some 1) (some (-1))) = isPow (tl tx) := by
  have := W.lo
  rw [so_twice (by omega) W.dot, W.eq, dq_pow (by rw [tl_len]; exact H.lo)]
theorem resp_pre {wr e : Str} (H : TxOk U V i j tx) (W : WrOk tx wr) (he : e = Str.ofString "" ∨ e = Str.ofString "\"" ∨ e = Str.ofString "\" \"again\"") :
    (Str.ofString "257 \"" ++ wr ++ e).length ≤ 1000 ∧ (Txt.slice (Str.ofString "257 \"" ++ wr ++ e) none (some 3) != Str.ofString "257") = false ∧ (Txt.slice (Str.ofString "257 \"" ++ wr ++ e) (some 3) (some 5) != Str.ofString " \"") = false ∧ PwInv (Str.ofString "257 \"" ++ wr ++ e) (tl tx) 5 Str.empty := by
  obtain ⟨h1, h2⟩ := end_ok he
  refine ⟨?_, reply_ok W.eq h2 rfl⟩
  have := W.hi
  have h5 : (Str.ofString "257 \"").length = 5 := by decide +kernel
  rw [Str.length_append, Str.length_append, h5]
  omega
theorem inn_yes {l : List (Int × Tok)} {x : Int} {t : Tok} (H : TxOk U V i j tx) (hl : l.map (·.1) = outw U V i ++ inn U V i j) (h : isPow (tl tx) = true) (hx : x = ((min (1 + i) (1 + j) : Nat) : Int)) :
    (l ++ [(x, t)]).map (·.1) = outw U V i ++ inn U V i (j + 1) := by
  rw [List.map_append, hl, inn_succ, ← H.eq, if_pos h, hx, List.append_assoc]; rfl
theorem inn_no {l : List (Int × Tok)} (H : TxOk U V i j tx) (hl : l.map (·.1) = outw U V i ++ inn U V i j) (h : isPow (tl tx) = false) :
    l.map (·.1) = outw U V i ++ inn U V i (j + 1) := by
  rw [hl, inn_succ, ← H.eq, h, if_neg Bool.false_ne_true, List.append_nil]
end
theorem ell_same {U V : List Nat} {fi se : Str} (h1 : tl fi = U) (h2 : tl se = V) (H : LawW U V) : ellM (fi ++ se) (se ++ fi) = (fi ++ se == se ++ fi) := by
  rw [ell_plain (by rw [tl_app, h1, h2, List.mem_append]; exact fun x => x.elim H.du H.dv), str_beq]
theorem same_iff {U V : List Nat} {fi se : Str} (h1 : tl fi = U) (h2 : tl se = V) : (fi ++ se == se ++ fi) = decide (U ++ V = V ++ U) := by
  rw [str_beq, tl_app, tl_app, h1, h2]
theorem said_ways {U V : List Nat} {fi se : Str} {l : List (Int × Tok)} (H : LawW U V) (hl : l.map (·.1) = outw U V 3) (hs : (fi ++ se == se ++ fi) = decide (U ++ V = V ++ U)) :
    ((fi ++ se == se ++ fi) = true ∧ l.length = 6) ∨ ((fi ++ se == se ++ fi) = false ∧ l = []) ∨ ((fi ++ se == se ++ fi) = false ∧ ∃ t, l = [(1, t)]) := by
  rw [hs]
  by_cases h : U ++ V = V ++ U
  · refine .inl ⟨decide_eq_true h, ?_⟩
    rw [← chk_six H.chk h, ← hl, List.length_map]
  · refine .inr ?_
    rcases chk_none H.chk h with e | e
    · rw [e] at hl
      exact .inl ⟨decide_eq_false h, List.map_eq_nil_iff.mp hl⟩
    · rw [e] at hl
      refine .inr ⟨decide_eq_false h, ?_⟩
      match l, hl with
      | [(x, t)], hl =>
        have : x = 1 := by simpa using hl
        exact ⟨t, by rw [this]⟩
section
variable {prog : Program} {w : World} {A : Around} {E : Value → Shared → Prop} {s : Shared}
theorem rep_led {U V : List Nat} {i j : Nat} {x : Str} {t u v : Tok} {Q : Value → Shared → Prop} (huv : u ≠ 0 ∧ v ≠ 0 ∧ u ≠ v) (H : TxOk U V i j x)
    (h : ∀ wr t' k, WrOk x wr → Q (.str wr t') { s with toks := k }) :
    wpAny (model prog w) A (call (.builtin "str.replace") [.str x t, .str (Str.ofString "\"") u, .str (Str.ofString "\"\"") v]) Q E s := by
  have h2 : (Str.ofString "\"\"").length = 2 := by decide +kernel
  have hx := H.hi
  refine SC.replaceW huv.1 huv.2.1 huv.2.2 (by decide +kernel) (by omega) (by rw [h2]; decide) (fun t' k => ?_)
  exact h _ t' k (wrOk_of H (wr_ok rfl))
end
theorem iv_nil : iv [] = [] := rfl
theorem iv_one (x : Int) (t : Tok) : iv [(x, t)] = [Value.int x t] := rfl
section
variable {prog : Program} {w : World} {A : Around} {E : Value → Shared → Prop} {s : Shared} {h₀ : Heap} {L a : Addr} {news : List (Addr × Obj)} {oa : Obj} {xs : List Value} {ka : Nat} {ds : List Dat} {x : Value} {d : Dat} {Q : Value → Shared → Prop}
theorem in_tupD (N : News h₀ L s.heap news) (ma : (a, oa) ∈ news) (ca : oa.cls = .type "tuple") (da : oa.data = .seq xs.toArray ka) (Da : DatAll news xs ds)
    (Dx : DatIn news x d) (ha : ∀ d ∈ ds, kqdOk 8 d = true) (hd : kqdOk 8 d = true) (hu : A.units + 64 < cLine) (hq : d ∈ ds) (h : Q (.bool true) s) : wpAny (model prog w) A (compareOp .In x (.ref a)) Q E s := by
  obtain ⟨as, ra⟩ := kqd_all N 8 Da ha
  obtain ⟨bs, rx⟩ := kqd_in N 8 Dx hd
  have l := kqd_layL ha
  have ld := kqd_lay 8 d hd
  have e : ((kqdPs ds).any fun y => PyData.eqv y (kqdP d)) = true := (kqd_any ds d ha hd).mpr hq
  have l2 := ld.2
  refine SeqAt.in_tuple_reads (reads_tuple_at (N.get ma) ca da (by simpa using ra)) rx l.1 ld.1 ?_ (by rw [e]; exact h)
  have := Nat.min_le_right (PyData.depthAll (kqdPs ds)) (kqdP d).depth
  omega
end
theorem dat_ok : ∀ d ∈ [Dat.list [], Dat.list [Dat.int 1]], kqdOk 8 d = true := by
  intro d hd
  simp only [List.mem_cons, List.not_mem_nil, or_false] at hd
  rcases hd with rfl | rfl
  · simp [kqdOk]
  · simp [kqdOk]
theorem mul_le1 {x : Str} {i B : Nat} (hi : i < 3) (hx : x.length ≤ B) : (Txt.mul x (1 + (i : Int))).length ≤ 3 * B := by
  rw [← tl_len, tl_mul _ (by omega), rep_len, tl_len]
  exact Nat.mul_le_mul (by omega) hx
theorem mul_ge1 {x : Str} {i : Nat} (hx : 1 ≤ x.length) : 1 ≤ (Txt.mul x (1 + (i : Int))).length := by
  rw [← tl_len, tl_mul _ (by omega), rep_len, tl_len]
  have : 1 * 1 ≤ (1 + (i : Int)).toNat * x.length := Nat.mul_le_mul (by omega) hx
  omega
section
variable {prog : Program} {w : World} {A : Around} {E : Value → Shared → Prop} {s : Shared} {x y : Str} {t u : Tok} {Q : Value → Shared → Prop}
theorem add_pos (hx : 1 ≤ x.length) (hx2 : x.length ≤ 1000) (hy : 1 ≤ y.length) (hy2 : y.length ≤ 1000) (h : ∀ t' k, 0 < k → (x ++ y).length = x.length + y.length → Q (.str (x ++ y) t') { s with toks := k }) : wpAny (model prog w) A (binaryOp .Add (.str x t) (.str y u)) Q E s := by
  refine P.add_str ?_
  have e1 : (x.length == 0) = false := by simp; omega
  have e2 : (y.length == 0) = false := by simp; omega
  rw [e1, e2, if_neg Bool.false_ne_true, if_neg Bool.false_ne_true]
  refine ⟨?_, h _ _ (Nat.succ_pos _) (Str.length_append x y)⟩
  rw [Str.length_append, sizeLine_eq]; omega
end
end Mine
end
section
open PySem PySem.W PyProof.Rows
set_option maxRecDepth 100000
set_option linter.unusedVariables false
noncomputable section
namespace Mine
abbrev ClaimA (w : World) (mean : ExcName → Option Value) (mg mb : Str → Option Value) (f : Addr) (news : List (Addr × Obj)) (A : List (Addr × List Value × List Int)) (pre : Prop) (vs : List Value) (R : Tok → Value) : Prop :=
  CbClaim PySem.Challenge.rw_ux0002_01.row.prog w (hdA.heap_39 w.params) hdA.view_39 (looseW hdA.view_39 []) mean mg mb f news A pre vs R
theorem fillA1 : PySem.Challenge.rw_ux0002_01 = PySem.Challenge.rw_ux0002_01 ∧ hdA.heap_39 = hdA.heap_39 := by
  w_top off
  k_fill
  exact ⟨rfl, rfl⟩

local macro_rules | `(tactic| walk_at $s:str) => `(tactic| k_dflt k_extra $s)
local macro_rules | `(tactic| k_all) => `(tactic| (intro p' hp'; exact Nat.ne_of_lt (‹∀ p ∈ _, Prod.fst p < _› p' hp')))
local macro_rules | `(tactic| k_all) => `(tactic| (intro p' hp'; refine Nat.ne_of_lt (Nat.lt_trans (‹∀ p ∈ _, Prod.fst p < _› p' hp') ?_); omega))
set_option maxHeartbeats 600000 in
theorem ell (w mean mg mb) (want got : Str) (t1 t2) (news) : ClaimA w mean mg mb 21 news [] (want.length ≤ 4000 ∧ got.length ≤ 4000) [.str want t1, .str got t2] (fun _ => .bool (ellM want got)) := by
  dsimp only [ClaimA, CbClaim, CbLists, CbRet]
  intros
  rename_i hret
  k_with_none
  k_with "truthy str" => (k_dflt ((with_reducible rename (∀ a, a ∈ _ → Str.length a ≤ _) => hs'); first | ((have hk' := hs' _ (List.mem_of_getElem? (by assumption))); refine truthy_split (by omega) (fun _ _ => ?_) (fun _ _ => ?_)) | (refine truthy_split (Nat.le_trans (getD_len hs' _) (by omega)) (fun _ _ => ?_) (fun _ _ => ?_))))
  k_with "delItem ref int" => (k_dflt ((with_reducible rename (∀ a, a ∈ _ → Str.length a ≤ _) => hs'); (try (have hz9 := split_len (by assumption))); first | ((with_reducible show wpAny _ _ (delItem (Value.ref _) (Value.int 0 _)) _ _ _); refine' del_first ?u1F ?u1N hs' ?u1z ?u1o ?u1U ?_; (case u1F => k_asm); (case u1N => k_asm); (case u1z => omega); (case u1o => omega); (case u1U => k_upd); intro h' F' N' _ _ _ _) | ((with_reducible show wpAny _ _ (delItem (Value.ref _) (Value.int (-1) _)) _ _ _); refine' del_last ?u1F ?u1N hs' ?u1z ?u1o ?u1U ?_; (case u1F => k_asm); (case u1N => k_asm); (case u1z => omega); (case u1o => omega); (case u1U => k_upd); intro h' F' N' _ _ _ _)))
  k_with "call builtin:len" => (k_dflt ((with_reducible show wpAny _ _ (call (Value.builtin "len") [Value.str _ _]) _ _ _); (with_reducible rename (∀ a, a ∈ _ → Str.length a ≤ _) => hs'); first | refine len_str (Nat.le_trans (getD_len hs' _) (by omega)) (fun _ _ => ?_) | refine len_str (by omega) (fun _ _ => ?_)))
  k_with "exec For Name Name cons nil" => (k_here; (rename Fr _ _ _ _ => lF'); (with_unfolding_all refine' For_invVF lF' ?u3k1 ?u3k2 ?_; (case u3k1 => exact rfl); (case u3k2 => exact rfl); k_whole))
  k_with "pyIter ref" => (k_dflt ((with_reducible show wpAny _ _ (pyIter (Value.ref _)) (fun it s₂ => LoopAtV _ _ _ _ _ _ _ _ _ it s₂) _ _); (rename Fr _ _ _ _ => lF'); (rename News _ _ _ _ => lN'); (with_reducible rename (∀ a, a ∈ _ → Str.length a ≤ _) => hs'); (with_unfolding_all refine' ell_iter ?u4hh ?u4hl lF' lN' hs' ?u4g ?u4e ?u4m ?u4v (fun i' y' t' st' v' ts' h' tk' I' oI' hy' hv' hlo' hR' F' N' => ?_) (fun u' v' ts' h' tk' hR' F' N' => ?_)); (case u4hh => rfl); (case u4hl => k_mem); (case u4g => exact rfl); (case u4e => exact rfl); (case u4m => exact rfl); (case u4v => omega); (all_goals (clear lF' lN'; try k_fold))))
  k_with "call builtin:str.find" => (k_dflt ((with_reducible show wpAny _ _ (call (Value.builtin "str.find") [Value.str _ _, Value.str _ _, Value.int _ _, Value.int _ _]) _ _ _); refine' find4 (by assumption) (by omega) (by omega) (fun k' r' he' _ _ => ?_) (fun he' _ _ => ?_)))
  k_with "LedPost" => (dsimp only [LedPost])
  k_with "LedEnd" => (k_dflt (refine' ell_end (by assumption) (by assumption) (by k_asm) (by k_asm) ?u7m ?u7v ?u7o ?u7s ?u7l ?u7D; (case u7m => exact rfl); (case u7v => omega); (case u7o => (intro z h1 h2; simp only [h1, h2, if_false])); (case u7s => kcj_all); (case u7l => assumption); (case u7D => k_mem)))
  refine wpAny_call ?_
  k_dflt cell_enter
  (with_reducible rename News _ _ _ news => N0)
  have hlow : ∀ p ∈ news, p.1 < _ := fun p hp => Heap.lt_size (N0 p hp).1
  k_steps
  all_goals first
    | (exfalso; have h9 := split_ge2 (by assumption) (by assumption); omega)
    | (refine cb_retB hret ?_ (by k_asm) (by first | k_asm | (refine' cb_drop ?cbN ?cbS; (case cbN => assumption); (case cbS => kcj_all)))
       first
       | exact ell_no (by assumption)
       | exact (ell_startno (by assumption) (by assumption) (by assumption) (by assumption) (by assumption)).symm
       | (refine Eq.trans ?_ (Eq.symm (ell_tail1 (by assumption) (by assumption) (by assumption) (by assumption) (by assumption)))
          first
          | exact (tail_no (by assumption) (by assumption)).symm
          | exact (tail_gt (by assumption) (by assumption) (by assumption)).symm
          | exact (tail_gt0 (by assumption) (by assumption)).symm
          | (refine Eq.trans ?_ (Eq.symm (tail_loop (by assumption) (by assumption) (by first | assumption | omega))); first | exact Eq.symm (by assumption) | exact (loop_none (by assumption) (by assumption)).symm)
          | (refine Eq.trans ?_ (Eq.symm (tail_loop0 (by assumption) (by first | assumption | omega))); first | exact Eq.symm (by assumption) | exact (loop_none (by assumption) (by assumption)).symm))
       | (refine Eq.trans ?_ (Eq.symm (ell_tail0 (by assumption) (by assumption) (by assumption) (by assumption)))
          first
          | exact (tail_no (by assumption) (by assumption)).symm
          | exact (tail_gt (by assumption) (by assumption) (by assumption)).symm
          | exact (tail_gt0 (by assumption) (by assumption)).symm
          | (refine Eq.trans ?_ (Eq.symm (tail_loop (by assumption) (by assumption) (by first | assumption | omega))); first | exact Eq.symm (by assumption) | exact (loop_none (by assumption) (by assumption)).symm)
          | (refine Eq.trans ?_ (Eq.symm (tail_loop0 (by assumption) (by first | assumption | omega))); first | exact Eq.symm (by assumption) | exact (loop_none (by assumption) (by assumption)).symm))
       | skip)
end Mine
end
end
section
open PySem PySem.W PyProof.Rows
set_option maxRecDepth 100000
set_option linter.unusedVariables false
noncomputable section
namespace Mine
theorem fillA2 : PySem.Challenge.rw_ux0002_01 = PySem.Challenge.rw_ux0002_01 ∧ hdA.heap_39 = hdA.heap_39 := by
  w_top off
  k_fill
  exact ⟨rfl, rfl⟩


local macro_rules | `(tactic| walk_at $s:str) => `(tactic| k_dflt k_extra $s)
set_option maxHeartbeats 8000000 in
theorem par (w mean mg mb) (resp : Str) (R : List Nat) (t1) (news) : ClaimA w mean mg mb 53 news [] (resp.length ≤ 1000 ∧ (Txt.slice resp none (some 3) != Str.ofString "257") = false ∧ (Txt.slice resp (some 3) (some 5) != Str.ofString " \"") = false ∧ PwInv resp R 5 Str.empty) [.str resp t1] (fun t => .str ⟨R.toArray⟩ t) := by
  dsimp only [ClaimA, CbClaim, CbLists, CbRet]
  intros
  rename_i dp un gd cn cs a ccd cl outer A₀ base h₀ L m s Q E B F X N T hk hpre hdp hun hret
  k_with_none
  k_with "WhPost" => (dsimp only [WhPost])
  k_with "exec While Compare cons nil" => (
    (rename Fr _ _ _ _ => lF'); (rename News _ _ _ _ => lN'); 
    (refine' while_st (PwJ resp R) (fun c => resp.length - c.1) (5, Str.empty) lF' lN' ?_ ?_)
    · exact ⟨rfl, 5, none, _, _, rfl, hpre.2.2.2, up3_of rfl rfl rfl (fun z h1 h2 h3 => rfl)⟩
    rintro ⟨i, d⟩ m₁ nx h tk ⟨rfl, v, u, ti, td, hv, hI, rfl⟩ F' N'
    clear lF' lN'
    have hle := hI.le
    have hdl := hI.dl
    dsimp only at hv hle hdl
    try k_fold)
  refine wpAny_call ?_
  k_dflt cell_enter
  k_steps
  all_goals first
    | (exfalso; have h1 := hpre.2.1; have h2 := hpre.2.2.1; simp_all; done)
    | (refine cb_retS hret ?_ (by k_asm) (by k_asm); first
       | exact pw_done hI hv (by assumption)
       | exact pw_brk1 hI hv (by assumption) (by assumption) (by assumption)
       | exact pw_brk2 hI hv (by assumption) (by assumption) (by assumption) (by assumption))
    | (k_dflt (refine' pw_end (c' := (i + 2, d ++ Txt.item resp v)) (by k_asm) (by k_asm) (pw_two hI hv (by assumption) (by assumption) (by assumption) (by assumption)) ?l ?i ?v ?d ?o; (case i => exact rfl); (case d => exact rfl); (case l => (dsimp only; omega)); (case v => (dsimp only; omega)); (case o => (intro z h1 h2 h3; simp only [h1, h2, h3, if_false]))))
    | (k_dflt (refine' pw_end (c' := (i + 1, d ++ Txt.item resp v)) (by k_asm) (by k_asm) (pw_one hI hv (by assumption) (by assumption)) ?l ?i ?v ?d ?o; (case i => exact rfl); (case d => exact rfl); (case l => (dsimp only; omega)); (case v => (dsimp only; omega)); (case o => (intro z h1 h2 h3; simp only [h1, h2, h3, if_false]))))
end Mine
end
end
section
open PySem PySem.W PyProof.Rows
set_option maxRecDepth 100000
set_option linter.unusedVariables false
noncomputable section
namespace Mine
theorem fillA3 : PySem.Challenge.rw_ux0002_01 = PySem.Challenge.rw_ux0002_01 ∧ hdA.heap_39 = hdA.heap_39 := by
  w_top off
  k_fill
  exact ⟨rfl, rfl⟩


local macro_rules | `(tactic| walk_at $s:str) => `(tactic| k_dflt k_extra $s)


theorem ise (w mean mg mb) (x : Int) (t1) (news) : ClaimA w mean mg mb 74 news [] True [.int x t1] (fun _ => .bool (decide (x = 0))) := by
  dsimp only [ClaimA, CbClaim, CbLists, CbRet]
  intros
  rename_i hret
  k_with_none
  k_with "WhPost" => (dsimp only [WhPost])
  refine wpAny_call ?_
  k_dflt cell_enter
  k_steps
  all_goals (refine cb_retB hret ?_ (by k_asm) (by k_asm))
  all_goals first | rfl | simp
theorem ist (w mean mg mb) (x : Int) (t1) (news) : ClaimA w mean mg mb 60 news [] True [.int x t1] (fun _ => .bool (decide (x < 256))) := by
  dsimp only [ClaimA, CbClaim, CbLists, CbRet]
  intros
  rename_i hret
  k_with_none
  k_with "WhPost" => (dsimp only [WhPost])
  refine wpAny_call ?_
  k_dflt cell_enter
  k_steps
  all_goals (refine cb_retB hret ?_ (by k_asm) (by k_asm))
  all_goals first | rfl | simp
theorem isn (w mean mg mb) (x : Int) (t1) (news) : ClaimA w mean mg mb 67 news [] True [.int x t1] (fun _ => .bool (decide (256 ≤ x))) := by
  dsimp only [ClaimA, CbClaim, CbLists, CbRet]
  intros
  rename_i hret
  k_with_none
  k_with "WhPost" => (dsimp only [WhPost])
  refine wpAny_call ?_
  k_dflt cell_enter
  k_steps
  all_goals (refine cb_retB hret ?_ (by k_asm) (by k_asm))
  all_goals first | rfl | simp
local macro_rules | `(tactic| k_all) => `(tactic| assumption)
set_option maxHeartbeats 8000000 in
theorem spl (w mean mg mb) (dp un : Nat) (gd : Option (List Code)) (cn : Str) (cs : Scope) (a : Addr) (ccd : Value) (cl : List (Str × Addr)) (outer : List Env) (A₀ : Around) (base h₀ : Heap) (L : Addr) (m : Str → Option Value) (s : Shared) (Q E : Value → Shared → Prop)
    (rest : List (Addr × Obj)) (P Rr S p' q' : Addr) (xs : List (Int × Tok)) (z0 : Tok) (pl ql : List (Int × Tok)) (s0 s1 : Str) (t0 t1 : Tok) (nP nR nS np nq : Nat) (R : List Nat)
    (B : Below A₀ base outer h₀) (F : Fr h₀ L s.heap m) (X : (hdA.heap_39 w.params).In h₀) (N : News h₀ L s.heap ((P, listOf (iv ((0, z0) :: xs.reverse)).toArray nP) :: rest)) (T : Top hdA.view_39 (looseW hdA.view_39 []) mean mg mb h₀) (hk : cs.kind = .function)
    (hP : ∀ p ∈ rest, p.1 ≠ P) (hR : (Rr, listOf [Value.ref p', Value.ref q'].toArray nR) ∈ rest) (hp : (p', listOf (iv pl).toArray np) ∈ rest) (hq : (q', listOf (iv ql).toArray nq) ∈ rest) (hS : (S, listOf [Value.str s0 t0, Value.str s1 t1].toArray nS) ∈ rest)
    (dpl : ∀ x ∈ pl, x.1 = 254 ∨ x.1 = 255) (dql : ∀ x ∈ ql, x.1 = 254 ∨ x.1 = 255) (lpl : pl.length ≠ 0) (lpl' : pl.length ≤ 1000) (lql : ql.length ≠ 0) (lql' : ql.length ≤ 1000) (ls0 : s0.length = 1) (ls1 : s1.length = 1)
    (hI : SpInv (fst1 pl) (fst1 ql) s0 s1 R xs Str.empty) (hRl : R.length ≤ 1000) (hdp : dp + 10 < recursionLimit) (hun : un + 60 < cLine) (hret : CbRet h₀ L m rest s Q (fun t => .str ⟨R.toArray⟩ t)) :
    wpAny (model PySem.Challenge.rw_ux0002_01.row.prog w) (ktrTop dp un gd cn cs L a ccd cl outer) (call (.ref 81) [.ref P, .ref Rr, .ref S]) Q E s := by
  dsimp only [CbRet] at hret
  k_with_none
  k_with "WhPost" => (dsimp only [WhPost])
  k_with "CBSIDE" => ((case k1 => k_asm); (case k2 => k_asm); (case k3 => k_asm); (case k4 => k_asm); (case k5 => k_asm); (case kK => first | exact rfl | assumption); (case kp => first | trivial | assumption); (case kd => ktr_room); (case ku => ktr_units); intro t9 h9 tk9 F9 N9; (try dsimp only); (try k_fold))
  k_with "exec While Compare cons nil" => (
    (rename Fr _ _ _ _ => lF'); (rename News _ _ _ _ => lN')
    (refine' while_st (SpJ P z0 pl ql s0 s1 R rest) (fun c => spSum (fst1 pl) (fst1 ql) (fst1 c.1)) (xs, Str.empty) lF' lN' ?_ ?_)
    · exact ⟨nP, none, _, rfl, hI, up2_of rfl rfl (fun z h1 h2 => rfl)⟩
    rintro ⟨ys, d⟩ m₁ nx h tk ⟨n, u, td, rfl, hJ, rfl⟩ F' N'
    clear lF' lN'
    have hdl := sp_dlen hJ
    dsimp only at hdl hJ
    rcases ys with _ | ⟨⟨x, tx⟩, ys⟩
    focus
      have hN := sp_news0 N'
      clear N'
      try k_fold
    rotate_left
    have hx := hJ.dom (x, tx) (.head _)
    have hN := sp_news N'
    have hys := sp_ilen (z0 := z0) hJ
    clear N'
    dsimp only at hx
    rcases hx with rfl | rfl | rfl | rfl
    all_goals try k_fold)
  k_with "subscriptTail Name UnaryOp" => (rename News _ _ _ _ => lN'; refine' last_led lN' (.head _) ?_ ?_; (first | omega | (simp; done)))
  k_with "subscriptTail Name BinOp" => (rename News _ _ _ _ => lN'; refine' item_led lN' (.tail _ hS) ?_ ?_ rfl ?_; (decide); (decide))
  k_with "subscriptTail Name BinOp" => (rename News _ _ _ _ => lN'; refine' item_led lN' (.tail _ hR) ?_ ?_ rfl ?_; (decide); (decide))
  k_with "call builtin:list.extend" => (rename Fr _ _ _ _ => lF'; rename News _ _ _ _ => lN'; refine' extend_led lF' lN' (.tail _ hp) ?_ (Upd.head hP) ?_ (fun h' F' N' => ?_); (rw [iv_len]; exact lpl); (rw [iv_len (l := pl)]; omega); (clear lF' lN'))
  k_with "call builtin:list.extend" => (rename Fr _ _ _ _ => lF'; rename News _ _ _ _ => lN'; refine' extend_led lF' lN' (.tail _ hq) ?_ (Upd.head hP) ?_ (fun h' F' N' => ?_); (rw [iv_len]; exact lql); (rw [iv_len (l := ql)]; omega); (clear lF' lN'))
  k_with "call builtin:list.pop" => (rename Fr _ _ _ _ => lF'; rename News _ _ _ _ => lN'; refine' pop_led lF' lN' (Upd.head hP) ?_ (fun h' F' N' => ?_); (omega); (clear lF' lN'))
  k_with "call ref" => (refine' cb_use (ise w mean mg mb _ _ _) ?k1 ?k2 ?k3 ?k4 ?k5 ?kK ?kp ?kd ?ku ?_; walk_at "CBSIDE")
  k_with "call ref" => (refine' cb_use (ist w mean mg mb _ _ _) ?k1 ?k2 ?k3 ?k4 ?k5 ?kK ?kp ?kd ?ku ?_; walk_at "CBSIDE")
  k_with "call ref" => (refine' cb_use (isn w mean mg mb _ _ _) ?k1 ?k2 ?k3 ?k4 ?k5 ?kK ?kp ?kd ?ku ?_; walk_at "CBSIDE")
  refine wpAny_call ?_
  k_dflt cell_enter
  k_steps
  all_goals first
    | (refine cb_retS hret ?_ (by k_asm) ?_
       · exact sp_done hJ
       · exact fun p hp => (by assumption : News _ _ _ (_ :: rest)) p (.tail _ hp))
    | (k_dflt (refine' sp_end (c' := (ys, d ++ s1)) (by k_asm) (by k_asm) rfl (sp_let (.inl rfl) hJ _ rfl) (sp_wt_let (.inl rfl)) ?d ?o; (case d => exact rfl); (case o => (intro z h1 h2; simp only [h1, h2, if_false]))))
    | (k_dflt (refine' sp_end (c' := (ys, d ++ s0)) (by k_asm) (by k_asm) rfl (sp_let (.inr rfl) hJ _ rfl) (sp_wt_let (.inr rfl)) ?d ?o; (case d => exact rfl); (case o => (intro z h1 h2; simp only [h1, h2, if_false]))))
    | (k_dflt (refine' sp_end (c' := (pl.reverse ++ ys, d)) (by k_asm) (by k_asm) (by simp [iv]) (sp_p dpl hJ) (sp_wt_p dpl) ?d ?o; (case d => exact rfl); (case o => (intro z h1 h2; simp only [h1, h2, if_false]))))
    | (k_dflt (refine' sp_end (c' := (ql.reverse ++ ys, d)) (by k_asm) (by k_asm) (by simp [iv]) (sp_q dql hJ) (sp_wt_q dql) ?d ?o; (case d => exact rfl); (case o => (intro z h1 h2; simp only [h1, h2, if_false]))))
end Mine
end
end
section
open PySem PySem.W PyProof.Rows
set_option maxRecDepth 100000
set_option linter.unusedVariables false
noncomputable section
namespace Mine
theorem fillA4 : PySem.Challenge.rw_ux0002_01 = PySem.Challenge.rw_ux0002_01 ∧ hdA.heap_39 = hdA.heap_39 := by
  w_top off
  k_fill
  exact ⟨rfl, rfl⟩
local macro_rules | `(tactic| walk_at $s:str) => `(tactic| k_dflt k_extra $s)


local macro_rules | `(tactic| k_all) => `(tactic| assumption)

open Builtin.Str in
theorem ellX (w mean mg mb) (a b : Str) (t1 t2 news) (r : Bool) (ha : a.length ≤ 4000) (hb : b.length ≤ 4000) (h : ellM a b = r) : ClaimA w mean mg mb 21 news [] True [.str a t1, .str b t2] (fun _ => .bool r) := by
  have C := cb_pre (ell w mean mg mb a b t1 t2 news) ⟨ha, hb⟩
  rw [h] at C
  exact C
def SoJ (t : Str) (m₀ : Str → Option Value) (news : List (Addr × Obj)) (i : Nat) (m : Str → Option Value) (nx : List (Addr × Obj)) : Prop :=
  nx = news ∧ ∃ (f : Bool) (u1 u2 : Option Value), f = (List.range i).any (powAt (tl t)) ∧ m = fun z => if z = Str.ofString "filled" then some (.bool f) else if z = Str.ofString "told" then u1 else if z = Str.ofString "count" then u2 else m₀ z
theorem so_end {t : Str} {h₀ : Heap} {L I : Addr} {oI : Obj} {m₀ m' : Str → Option Value} {news led : List (Addr × Obj)} {i : Nat} {s₁ : Shared} {h' : Heap} {tk : Nat} {f' : Bool}
    (F : Fr h₀ L h' m') (N : News h₀ L h' led) (hs : ∀ p ∈ (I, oI) :: news, p ∈ led) (hI : ∀ p ∈ news, p.1 ≠ I) (hm : m' (Str.ofString "filled") = some (.bool f')) (hf : f' = ((List.range i).any (powAt (tl t)) || powAt (tl t) i))
    (ho : ∀ z, z ≠ Str.ofString "filled" → z ≠ Str.ofString "told" → z ≠ Str.ofString "count" → m' z = m₀ z) :
    RgEnd h₀ L (SoJ t m₀ news (i + 1)) I oI s₁ { s₁ with heap := h', toks := tk } :=
  .intro F N hs hI ⟨rfl, f', m' (Str.ofString "told"), m' (Str.ofString "count"), by rw [hf, range_any_succ], up3_of hm rfl rfl ho⟩
theorem or_t {f p : Bool} (h : f = true) : f = (f || p) := by rw [h]; rfl
theorem or_t' {f p : Bool} (h : f = true) : true = (f || p) := by rw [h]; rfl
theorem or_f {f p : Bool} (h : f = false) : p = (f || p) := by rw [h]; rfl
theorem or_m {f p : Bool} (h : p = false) : f = (f || p) := by rw [h]; cases f <;> rfl
theorem bne_self {f : Bool} {P : Prop} (h : (f != f) = true) : P := by cases f <;> cases h
set_option maxHeartbeats 8000000 in
theorem sov (w mean mg mb) (dp un : Nat) (gd : Option (List Code)) (cn : Str) (cs : Scope) (a : Addr) (ccd : Value) (cl : List (Str × Addr)) (outer : List Env) (A₀ : Around) (base h₀ : Heap) (L : Addr) (m : Str → Option Value) (s : Shared) (Q E : Value → Shared → Prop)
    (rest : List (Addr × Obj)) (t : Str) (t1 : Tok)
    (B : Below A₀ base outer h₀) (F : Fr h₀ L s.heap m) (X : (hdA.heap_39 w.params).In h₀) (N : News h₀ L s.heap rest) (T : Top hdA.view_39 (looseW hdA.view_39 []) mean mg mb h₀) (hk : cs.kind = .function)
    (hlen : 2 ≤ t.length) (hlen' : t.length ≤ 40) (hd : 46 ∉ tl t)
    (hdp : dp + 10 < recursionLimit) (hun : un + 60 < cLine) (hret : CbRet h₀ L m rest s Q (fun _ => .bool (isPow (tl t)))) :
    wpAny (model PySem.Challenge.rw_ux0002_01.row.prog w) (ktrTop dp un gd cn cs L a ccd cl outer) (call (.ref 88) [.str t t1]) Q E s := by
  dsimp only [CbRet] at hret
  have d3 : (Str.ofString "...").length = 3 := by decide +kernel
  k_with_none
  k_with "WhPost" => (dsimp only [WhPost])
  k_with "CBSIDE" => ((case k1 => k_asm); (case k2 => k_asm); (case k3 => k_asm); (case k4 => k_asm); (case k5 => k_asm); (case kK => first | exact rfl | assumption); (case kp => first | trivial | assumption); (case kd => ktr_room); (case ku => ktr_units); intro t9 h9 tk9 F9 N9; (try dsimp only); (try k_fold))
  k_with "RgPost" => (dsimp only [RgPost])
  k_with "LedPost" => (dsimp only [LedPost])
  k_with "LedEnd" => (k_dflt (refine' pure_end (by k_asm) (by k_asm) ?u4s ?u4l ?u4D ?u4o; (case u4s => kcj_all); (case u4l => assumption); (case u4D => k_mem); (case u4o => (intro z h1; simp only [h1, if_false]))))
  k_with "exec For Name Call cons nil" => ((rename Fr _ _ _ _ => lF'); (with_unfolding_all refine' For_invVF lF' ?k1 ?k2 ?_; (case k1 => exact rfl); (case k2 => exact rfl)))
  k_with "pyIter ref" => (
    (with_reducible show wpAny _ _ (pyIter (Value.ref _)) (fun it s₂ => LoopAtV _ _ _ _ _ _ _ _ _ it s₂) _ _)
    (rename Fr _ _ _ _ => lF'); (rename News _ _ _ _ => lN'); (rename IsRange _ _ _ _ _ _ _ _ => rgX)
    (with_unfolding_all refine' iter_rng (SoJ t) (n := t.length - 1) ?_ rgX ?_ ?_ lF' lN' ?_ ?_ ?_)
    · rfl
    · exact small_one (by omega) (by omega) (by omega) (by omega)
    · exact range_n (by omega)
    · exact ⟨rfl, false, none, none, rfl, up3_of rfl rfl rfl (fun z h1 h2 h3 => rfl)⟩
    rintro i t9 m₁ nx h tk I oI hi ⟨rfl, f, u1, u2, hf, rfl⟩ hI hlow F' N'
    rotate_left
    rintro m₁ nx h tk ⟨rfl, f, u1, u2, hf, rfl⟩ F' N'
    have hfp : isPow (tl t) = f := by rw [hf]; unfold isPow; rw [tl_len]
    clear hf
    all_goals (clear lF' lN'; try k_fold))
  k_with "RgEnd" => (refine' so_end (by k_asm) (by k_asm) ?s ?I ?m ?f ?o; (case s => kcj_all); (case I => assumption); (case m => exact rfl); (case o => (intro z h1 h2 h3; simp only [h1, h2, h3, if_false])); (case f => (rw [← hf]; first | exact or_m (so_miss (by assumption)) | exact or_t (by assumption) | exact or_f (by assumption) | exact or_t' (by assumption) | exact or_m (so_miss (by simpa using ‹_ ≠ _›)))))
  k_with "exec For Name List cons nil" => ((rename Fr _ _ _ _ => lF'); (with_unfolding_all refine' For_invVF lF' ?k1 ?k2 ?_; (case k1 => exact rfl); (case k2 => exact rfl)))
  k_with "pyIter ref" => (
    (with_reducible show wpAny _ _ (pyIter (Value.ref _)) (fun it s₂ => LoopAtV _ _ _ _ _ _ _ _ _ it s₂) _ _)
    (rename Fr _ _ _ _ => lF'); (rename News _ _ _ _ => lN')
    (with_unfolding_all refine' iter_pure ?hh ?hl lF' lN' ?_ ?_)
    (case hh => rfl)
    (case hl => exact List.Mem.head _)
    refine' List.forall_mem_cons.mpr ⟨?_, List.forall_mem_cons.mpr ⟨?_, List.forall_mem_nil _⟩⟩
    all_goals intros
    all_goals (clear lF' lN'; try k_fold))
  k_with "call builtin:str.join" => (refine' join_rep (by assumption) (Nat.le_trans (Txt.slice_le _ _ _) hlen') (by omega) (fun _ _ => ?_))
  k_with "call ref" => ((with_reducible show wpAny _ _ (call (Value.ref 21) [Value.str (Str.join _ _) _, _]) _ _ _); refine' cb_use (ellX w mean mg mb _ _ _ _ _ _ (Nat.le_trans (join_len_le (Nat.le_trans (Txt.slice_le _ _ _) hlen') (by omega)) (by omega)) (by omega) (so_join hi hd (by first | assumption | (simp_all; done)))) ?k1 ?k2 ?k3 ?k4 ?k5 ?kK ?kp ?kd ?ku ?_; walk_at "CBSIDE")
  k_with "call ref" => ((with_reducible show wpAny _ _ (call (Value.ref 21) [Value.str (Str.ofString "..." ++ t ++ Str.ofString "...") _, _]) _ _ _); refine' cb_use (ellX w mean mg mb _ _ _ _ _ _ (by omega) (by omega) (so_twice (by omega) hd)) ?k1 ?k2 ?k3 ?k4 ?k5 ?kK ?kp ?kd ?ku ?_; walk_at "CBSIDE")
  k_with "call ref" => ((with_reducible show wpAny _ _ (call (Value.ref 21) [Value.str (t ++ Str.ofString "..." ++ t) _, _]) _ _ _); refine' cb_use (ellX w mean mg mb _ _ _ _ _ _ (by omega) (by omega) (so_self (by omega) hd)) ?k1 ?k2 ?k3 ?k4 ?k5 ?kK ?kp ?kd ?ku ?_; walk_at "CBSIDE")
  k_with "call ref" => ((with_reducible show wpAny _ _ (call (Value.ref 21) [Value.str (Txt.slice t (some 1) none) _, _]) _ _ _); refine' cb_use (ellX w mean mg mb _ _ _ _ _ _ (by omega) (by omega) (so_less1 (by omega) hd)) ?k1 ?k2 ?k3 ?k4 ?k5 ?kK ?kp ?kd ?ku ?_; walk_at "CBSIDE")
  k_with "call ref" => ((with_reducible show wpAny _ _ (call (Value.ref 21) [Value.str t _, Value.str (Txt.slice t (some 1) none) _]) _ _ _); refine' cb_use (ellX w mean mg mb _ _ _ _ _ _ (by omega) (by omega) (so_less2 (by omega) hd)) ?k1 ?k2 ?k3 ?k4 ?k5 ?kK ?kp ?kd ?ku ?_; walk_at "CBSIDE")
  k_with "call ref" => ((with_reducible show wpAny _ _ (call (Value.ref 21) [Value.str (Txt.slice t none (some (-1))) _, _]) _ _ _); refine' cb_use (ellX w mean mg mb _ _ _ _ _ _ (by omega) (by omega) (so_less3 (by omega) hd)) ?k1 ?k2 ?k3 ?k4 ?k5 ?kK ?kp ?kd ?ku ?_; walk_at "CBSIDE")
  k_with "call ref" => ((with_reducible show wpAny _ _ (call (Value.ref 21) [Value.str t _, Value.str (Txt.slice t none (some (-1))) _]) _ _ _); refine' cb_use (ellX w mean mg mb _ _ _ _ _ _ (by omega) (by omega) (so_less4 (by omega) hd)) ?k1 ?k2 ?k3 ?k4 ?k5 ?kK ?kp ?kd ?ku ?_; walk_at "CBSIDE")
  k_with "call ref" => ((with_reducible show wpAny _ _ (call (Value.ref 21) [Value.str (Txt.slice t (some 1) none ++ Str.ofString "...") _, _]) _ _ _); refine' cb_use (ellX w mean mg mb _ _ _ _ _ _ (by omega) (by omega) (so_one1 (by omega) hd)) ?k1 ?k2 ?k3 ?k4 ?k5 ?kK ?kp ?kd ?ku ?_; walk_at "CBSIDE")
  k_with "call ref" => ((with_reducible show wpAny _ _ (call (Value.ref 21) [Value.str (Str.ofString "..." ++ Txt.slice t none (some (-1))) _, _]) _ _ _); refine' cb_use (ellX w mean mg mb _ _ _ _ _ _ (by omega) (by omega) (so_one2 (by omega) hd)) ?k1 ?k2 ?k3 ?k4 ?k5 ?kK ?kp ?kd ?ku ?_; walk_at "CBSIDE")
  refine wpAny_call ?_
  k_dflt cell_enter
  k_steps
  all_goals first
    | exact bne_of (so_all (t := t) (by omega)) (by assumption)
    | (refine cb_retB hret ?_ (by k_asm) (by first | k_asm | (refine' cb_drop ?cbN ?cbS; (case cbN => assumption); (case cbS => kcj_all)))
       exact hfp.symm)
    | (exfalso; simp_all; done)
end Mine
end
end
section
open PySem PySem.W PyProof.Rows
set_option maxRecDepth 100000
set_option linter.unusedVariables false
noncomputable section
namespace Mine
theorem splX (w mean mg mb) (dp un : Nat) (gd : Option (List Code)) (cn : Str) (cs : Scope) (a : Addr) (ccd : Value) (cl : List (Str × Addr)) (outer : List Env) (A₀ : Around) (base h₀ : Heap) (L : Addr) (m : Str → Option Value) (s : Shared) (Q E : Value → Shared → Prop)
    (rest : List (Addr × Obj)) (P Rr S p' q' : Addr) (z0 : Tok) (pl ql : List (Int × Tok)) (s0 s1 : Str) (t0 t1 tx ty : Tok) (nP nR nS np nq i j ca cb : Nat) (U V : List Nat)
    (B : Below A₀ base outer h₀) (F : Fr h₀ L s.heap m) (X : (hdA.heap_39 w.params).In h₀)
    (N : News h₀ L s.heap ((Rr, listOf [Value.ref p', Value.ref q'].toArray nR) :: (q', listOf (iv ql.reverse).toArray nq) :: (p', listOf (iv pl.reverse).toArray np) :: (P, listOf (iv ((0, z0) :: (List.replicate ca ((256 : Int), tx) ++ List.replicate cb ((257 : Int), ty)).reverse)).toArray nP) :: rest))
    (T : Top hdA.view_39 (looseW hdA.view_39 []) mean mg mb h₀) (hk : cs.kind = .function)
    (hRP : @LT.lt Nat _ P Rr) (hqP : @LT.lt Nat _ P q') (hpP : @LT.lt Nat _ P p') (hP : ∀ p ∈ rest, p.1 < P) (hS : (S, listOf [Value.str s0 t0, Value.str s1 t1].toArray nS) ∈ rest)
    (dpl : ∀ x ∈ pl, x.1 = 254 ∨ x.1 = 255) (dql : ∀ x ∈ ql, x.1 = 254 ∨ x.1 = 255) (lp : 1 ≤ pl.length ∧ pl.length ≤ 4) (lq : 1 ≤ ql.length ∧ ql.length ≤ 4) (ls0 : s0.length = 1) (ls1 : s1.length = 1)
    (hU : (fst1 pl).flatMap (spLet s0 s1) = U) (hV : (fst1 ql).flatMap (spLet s0 s1) = V) (hca : ca = 1 + i) (hcb : cb = 1 + j) (hi : i < 3) (hj : j < 3 - i) (hL : LawW U V)
    (hdp : dp + 10 < recursionLimit) (hun : un + 60 < cLine)
    (hret : ∀ (y : Str) (t : Tok) (h' : Heap) (tk' : Nat), TxOk U V i j y → Fr h₀ L h' m → News h₀ L h' rest → Q (.str y t) { s with heap := h', toks := tk' }) :
    wpAny (model PySem.Challenge.rw_ux0002_01.row.prog w) (ktrTop dp un gd cn cs L a ccd cl outer) (call (.ref 81) [.ref P, .ref Rr, .ref S]) Q E s := by
  have hd : ∀ {l : List (Int × Tok)}, (∀ x ∈ l, x.1 = 254 ∨ x.1 = 255) → ∀ x ∈ l.reverse, x.1 = 254 ∨ x.1 = 255 := fun h x hx => h x (List.mem_reverse.mp hx)
  have hT : ∀ y : Str, tl y = rep (1 + i) U ++ rep (1 + j) V → TxOk U V i j y := fun y e => txOk_of hL hi hj e
  have hRl : (rep (1 + i) U ++ rep (1 + j) V).length ≤ 1000 := by
    have := (hT ⟨(rep (1 + i) U ++ rep (1 + j) V).toArray⟩ rfl).hi
    rw [← tl_len] at this
    exact Nat.le_trans this (by decide)
  refine spl w mean mg mb dp un gd cn cs a ccd cl outer A₀ base h₀ L m s Q E ((Rr, listOf [Value.ref p', Value.ref q'].toArray nR) :: (q', listOf (iv ql.reverse).toArray nq) :: (p', listOf (iv pl.reverse).toArray np) :: rest) P Rr S p' q' _ z0 pl.reverse ql.reverse s0 s1 t0 t1 nP nR nS np nq (rep (1 + i) U ++ rep (1 + j) V)
    B F X (news_4 N) T hk ?_ (.head _) (.tail _ (.tail _ (.head _))) (.tail _ (.head _)) (.tail _ (.tail _ (.tail _ hS))) (hd dpl) (hd dql) (by simp; intro h; subst h; simp at lp) (by simp; omega) (by simp; intro h; subst h; simp at lq) (by simp; omega) ls0 ls1
    (sp_go hU hV hca hcb hi (by omega) lp.2 lq.2) hRl hdp hun ?_
  · intro p hp
    rcases List.mem_cons.mp hp with rfl | hp
    · exact Nat.ne_of_gt hRP
    rcases List.mem_cons.mp hp with rfl | hp
    · exact Nat.ne_of_gt hqP
    rcases List.mem_cons.mp hp with rfl | hp
    · exact Nat.ne_of_gt hpP
    exact Nat.ne_of_lt (hP p hp)
  · intro t h' tk' F' N'
    exact hret _ t h' tk' (hT _ rfl) F' fun p hp => N' p (.tail _ (.tail _ (.tail _ hp)))
end Mine
end
end
section
open PySem PySem.W PyProof.Rows
set_option maxRecDepth 100000
set_option linter.unusedVariables false
noncomputable section
namespace Mine
theorem tok3 {k : Nat} (h : 0 < k) : k ≠ 0 ∧ k + 1 ≠ 0 ∧ k ≠ k + 1 := by omega
theorem fillA5 : PySem.Challenge.rw_ux0002_01 = PySem.Challenge.rw_ux0002_01 ∧ hdA.heap_39 = hdA.heap_39 := by
  w_top off
  k_fill
  exact ⟨rfl, rfl⟩
local macro_rules | `(tactic| walk_at $s:str) => `(tactic| k_dflt k_extra $s)
set_option maxHeartbeats 32000000 in
theorem lawA : PySem.Challenge.rw_ux0002_01.Holds := hdA (by
  k_with_none
  k_with "RgPost" => (dsimp only [RgPost])
  k_with "CBSIDE" => ((case k1 => k_asm); (case k2 => k_asm); (case k3 => k_asm); (case k4 => k_asm); (case k5 => k_asm); (case kK => first | exact rfl | assumption); (case kp => first | trivial | assumption); (case kd => ktr_room); (case ku => ktr_units); intro t9 h9 tk9 F9 N9; (try dsimp only); (try k_fold))
  k_with "pyIter ref" => (
    (rename PairSrcL _ _ _ _ _ _ _ _ _ _ _ _ => hSrc)
    (refine' hSrc.at _ rfl _ _ _ _ (CeJ ?D 2 ?rest ?m0) ?start ?turn ?done)
    (case start => (refine' ce_start2 ?_ ?_; decide; decide))
    rintro i x0 tp vx m₁ news₁ s₂ own ⟨hh, tkk, rfl⟩ hx ⟨tx, rfl⟩ ⟨cs, nn, u1, u2, hcl, hcp, rfl, rfl⟩ hadr hown F9 N9
    have N8 := ce_news N9
    have hDn := ce_ne (by assumption) hown
    have hm0 := fmod_range (i : Int) (b := 2) (by decide)
    have hx0 := fmod_range x0 (b := 1000000) (by decide)
    clear N9 hx hSrc
    rotate_left
    rintro h9 tk9 m9 news9 F9 N9 _ ⟨cs, nn, u1, u2, hcl, hcp, rfl, rfl⟩
    obtain ⟨⟨c0, t0⟩, ⟨c1, t1⟩, rfl⟩ := two_of hcl
    have hc0 : 0 ≤ c0 := hcp _ (.head _)
    have hc1 : 0 ≤ c1 := hcp _ (.tail _ (.head _))
    dsimp only [iv, List.map] at N9
    clear hSrc hcp hcl
    all_goals try k_fold)
  k_with "getItem ref int" => (refine' cell_getI (by k_asm) (.head _) hm0.1 (by omega) (by omega) hcp (fun c9 t9 hc9 hg9 => ?_))
  k_with "setItem ref int" => (refine' cell_set (by k_asm) (by k_asm) hDn hm0.1 (by omega) (by omega) hcp (by omega) (fun h9 cs9 hl9 hp9 F9 N9 => ?_))
  k_with "LoopStep3" => (refine' ce_end (by k_asm) (by k_asm) ce_sub (by omega) (by assumption) ?_ ?_; (rfl); (intro z h1 h2; simp only [h1, h2, if_false]))
  k_with "eval IfExp" => ((rename Fr _ _ _ _ => lF'); (rename News _ _ _ _ => lN'); (refine' int_join (fun c => c = 10 ∨ (47 ≤ c ∧ c ≤ 50046)) lF' lN' (IfExp_ ?_) (fun c9 t9 h9 tk9 hP9 F9 N9 => ?_)); (all_goals try k_fold))
  k_with "CompSrc" => (refine' LCg.CompSrc.ledger (by rfl) (by k_asm) (by k_asm) (by k_mem) (by kcf_size) ?_; intro g'; (refine' kct_list (sgn (Str.ofString "\"") ⟨#[c9.toNat]⟩) (by first | assumption | l_ints) (fun k' t' I' oI' C' oC' D' m' ys' h' tk' E' hk' hC' hx' F' N' off' ne' hMark' => ?_) ?_); (all_goals try k_fold))
  k_with "CompEnd" => (rename News _ _ _ _ => lN'; exact LCg.CompEnd.intro (by k_asm) lN' _ (fun p hp => hp) off' (Or.inr ⟨_, by k_mem, rfl, _, rfl⟩) (kct_el rfl rfl rfl))
  k_with "binaryOp Pow int int" => ((with_reducible refine pow_int_small ?kb1 ?kb2 ?kb3 ?_); (case kb1 => omega); (case kb2 => omega); (case kb3 => decide))
  k_with "binaryOp FloorDiv int int" => ((with_reducible refine floordiv_int ?kbe ?_ (Or.inl (PyProof.noPylong_of_log2 ?kbp))); (case kbe => exact Int.ne_of_gt (pow_pos_of (by decide) _)); (case kbp => exact kbt_py (by omega)))
  k_with "KCtEl" => exact kct_el rfl rfl rfl
  k_with "call builtin:str.join" => ((with_reducible rename CarriedAll _ (List.map _ _) => ktC); (refine KT.join_1 (by first | assumption | is_list | exact News.isList (by k_asm) (by k_mem)) ktC (by intro a _; exact sgn_one) (by first | omega | (simp only [List.length_map]; rw [rangeKs_length]; omega)) ?_); intro _ _ ktE)
  k_with "IntBack" => (refine' IntBack.intro (by k_asm) (by k_asm) ?_ ?_; (kcj_all); (have hs9 := fmod_range (c0 + (c1 + 0)) (b := 50000) (by decide); omega))
  k_with "subscriptTail Name BinOp" => (have hk9 := pq_mem hk'; (rename News _ _ _ _ => lN'); refine' sgn_led lN' (by k_mem) hk9 ?_)
  k_with "exec For Name Call cons nil" => ((rename Fr _ _ _ _ => lF'); (with_unfolding_all refine' For_invVF lF' ?k1 ?k2 ?_; (case k1 => exact rfl); (case k2 => exact rfl)))
  k_with "call type:range" => ((rename Fr _ _ _ _ => lF'); (rename News _ _ _ _ => lN'); (with_unfolding_all refine range2_rows lF' lN' ?_); intro _ _ _ _ _ _ _ _ _)
  k_with "pyIter ref" => (
    (rename Fr _ _ _ _ => lF'); (rename News _ _ _ _ => lN'); (rename IsRange _ _ _ _ _ _ _ _ => rgX)
    (with_unfolding_all refine' out_iter (U := U) (V := V) ?_ rgX lF' lN' ?_ ?_)
    · rfl
    intro i ti l n us h tk I oI hi hl hSI hrI hlow F' N'
    have hlowI := hlow
    k_lt hlow
    rotate_left
    intro l n us h tk hl F' N'
    rcases said_ways hLW hl (same_iff efi ese) with ⟨hA, h6⟩ | ⟨hA, rfl⟩ | ⟨hA, ts9, rfl⟩
    all_goals (try rw [iv_nil] at N'); (try rw [iv_one] at N')
    all_goals (clear lF' lN'; try k_fold))
  k_with "pyIter ref" => (
    (rename Fr _ _ _ _ => lF'); (rename News _ _ _ _ => lN'); (rename IsRange _ _ _ _ _ _ _ _ => rgX)
    (with_unfolding_all refine' in_iter (U := U) (V := V) ?_ rgX hi ?_ lF' lN' hl ?_ ?_)
    · rfl
    · rfl
    intro j tj l2 n2 us2 h tk I2 oI2 hj hl2 hOI2 hSI2 hrI2 hlow2 F' N'
    have hlowJ := hlow2
    k_lt hlow2
    have hl2n : l2.length ≤ 20 := by
      have e1 := congrArg List.length hl2
      have e2 := outw_len U V i
      have e3 := inn_len U V i j
      rw [List.length_map, List.length_append] at e1
      omega
    rotate_left
    intro l2 n2 us2 h tk hl2 F' N'
    all_goals (clear lF' lN'; try k_fold))
  k_with "binaryOp Mult ref int" => ((rename Fr _ _ _ _ => lF'); (rename News _ _ _ _ => lN'); (refine' mul_led lF' lN' (List.Mem.head _) ?_ ?_ (fun D' h' F' N' l1 => ?_)); (omega); (omega); (k_lt l1); (clear lF' lN'))
  k_with "binaryOp Add ref ref" => ((rename Fr _ _ _ _ => lF'); (rename News _ _ _ _ => lN'); (refine' add_led (l1 := [(0, _)]) lF' lN' (List.Mem.tail _ (List.Mem.tail _ (List.Mem.head _))) (List.Mem.head _) ?_ (fun D' h' F' N' l1 => ?_)); (simp only [List.length_replicate, List.length_cons, List.length_nil]; omega); (k_lt l1); (clear lF' lN'))
  k_with "binaryOp Add ref ref" => ((rename Fr _ _ _ _ => lF'); (rename News _ _ _ _ => lN'); (refine' add_led lF' lN' (List.Mem.tail _ (List.Mem.tail _ (List.Mem.head _))) (List.Mem.head _) ?_ (fun D' h' F' N' l1 => ?_)); (simp only [List.length_append, List.length_replicate, List.length_cons, List.length_nil]; omega); (rw [pile_eq] at N'); (have hPile := l1); (k_lt l1); (clear lF' lN'))
  k_with "subscriptTail Name Slice ref ref" => (k_dflt (refine' rev_led ?rvF ?rvN ?rvM ?rvK ?_ ?rvS ?rvT ?rvZ; (case rvF => k_asm); (case rvN => k_asm); (case rvM => k_mem); (case rvK => exact IsPart.int _ _); (case rvS => with_unfolding_all rfl); (case rvT => kmk_pure); (case rvZ => omega)); intro D' h' F' N' l1; (try k_lt l1))
  k_with "call ref" => ((with_reducible show wpAny _ _ (call (Value.ref 21) [Value.str (fi ++ se) _, _]) _ _ _); refine' cb_use (ellX _ _ _ _ _ _ _ _ _ _ (by omega) (by omega) (ell_same efi ese hLW)) ?k1 ?k2 ?k3 ?k4 ?k5 ?kK ?kp ?kd ?ku ?_; walk_at "CBSIDE")
  k_with "call ref" => ((with_reducible show wpAny _ _ (call (Value.ref 81) _) _ _ _); refine' splX _ _ _ _ _ _ _ _ _ _ _ _ _ _ _ _ _ _ _ _ _ _ _ _ _ _ _ _ _ _ _ _ _ _ _ _ _ _ _ _ _ _ _ _ _ _ _ ?spB ?spF ?spX ?spN ?spT ?spK ?spR ?spq ?spp ?spL ?spS dpl dql ⟨lp1, by omega⟩ ⟨lq1, by omega⟩ (by decide +kernel) rfl hU hV ?spa ?spb hi hj hLW ?spd ?spu ?_; (case spB => k_asm); (case spF => k_asm); (case spX => k_asm); (case spN => k_asm); (case spT => k_asm); (case spK => first | exact rfl | assumption); (case spL => exact hPile); (case spR => first | omega | fail "spR"); (case spq => first | omega | fail "spq"); (case spp => first | omega | fail "spp"); (case spS => first | k_mem | fail "spS"); (case spa => first | omega | fail "spa"); (case spb => first | omega | fail "spb"); (case spd => ktr_room); (case spu => ktr_units); (intro y9 t9 h9 tk9 hTx F9 N9; (have hTx1 := hTx.lo); (have hTx2 := hTx.hi); (have hS := tx_says hTx efi ese); (have hR := tx_read y9); (have hg1 := mul_ge1 (x := fi) (i := i) (by omega)); (have hg2 := mul_ge1 (x := se) (i := j) (by omega)); (have hm1 := mul_le1 (x := fi) (B := 3) hi (by omega)); (have hm2 := mul_le1 (x := se) (i := j) (B := 4) (by omega) (by omega))); (try dsimp only); (try k_fold))
  k_with "binaryOp Add str str" => (refine' add_pos ?_ ?_ ?_ ?_ (fun t8 k8 hk8 hl8 => ?_); (omega); (omega); (omega); (omega))
  k_with "truthy bool" => (simp only [bne_self_eq_false])
  k_with "truthy bool" => (simp only [hA, bne_self_eq_false])
  k_with "truthy bool" => (simp only [hA])
  k_with "truthy bool" => (simp only [hS])
  k_with "truthy bool" => (simp only [hR])
  k_with "call builtin:len" => (rename News _ _ _ _ => lN'; refine' len_led (N9 := 6) lN' (List.Mem.head _) ?_ (by decide) (fun _ _ => ?_); (rw [iv_len]; exact h6))
  k_with "compareOp In ref ref" => (refine' in_tupD (ds := [Dat.list [], Dat.list [Dat.int 1]]) ?tdN ?tda ?tdb ?tdc ?tdd ?tde ?tdf ?tdg ?tdh ?tdi ?_; (case tdN => k_asm); (case tda => k_mem); (case tdb => rfl); (case tdc => rfl); (case tdd => kqd_all); (case tde => kqd_in); (case tdf => exact dat_ok); (case tdg => rfl); (case tdh => ke_room); (case tdi => first | exact List.Mem.head _ | exact List.Mem.tail _ (List.Mem.head _)))
  k_with "binaryOp Mod int int" => (refine PyProof.Rows.mod_int (by decide) ?_)
  k_with "call builtin:str.replace" => (refine' rep_led (tok3 hk8) hTx ?_; intro wr t8 tk8 hW; (have hW1 := hW.lo); (have hW2 := hW.hi))
  k_with "subscriptTail List cons BinOp" => (rename News _ _ _ _ => lN'; (have hm9 := fmod_range (c0 + (1 + (j : Int))) (b := 3) (by decide)); refine' menu_led lN' (.head _) hm9.1 hm9.2 (fun e9 te9 he9 => ?_); (have hel := (end_ok he9).1))
  k_with "call ref" => ((with_reducible show wpAny _ _ (call (Value.ref 53) _) _ _ _); refine' cb_use (cb_pre (par _ _ _ _ _ (tl y9) _ _) (resp_pre hTx hW he9)) ?k1 ?k2 ?k3 ?k4 ?k5 ?kK ?kp ?kd ?ku ?_; walk_at "CBSIDE")
  k_with "call ref" => ((with_reducible show wpAny _ _ (call (Value.ref 21) [Value.str (Str.ofString "..." ++ wr ++ Str.ofString "...") _, _]) _ _ _); refine' cb_use (ellX _ _ _ _ _ _ _ _ _ _ (by omega) (by omega) (wr_twice hTx hW)) ?k1 ?k2 ?k3 ?k4 ?k5 ?kK ?kp ?kd ?ku ?_; walk_at "CBSIDE")
  k_with "call ref" => ((with_reducible show wpAny _ _ (call (Value.ref 88) _) _ _ _); refine' sov _ _ _ _ _ _ _ _ _ _ _ _ _ _ _ _ _ _ _ _ _ _ y9 _ ?svB ?svF ?svX ?svN ?svT ?svK hTx.lo (by omega) hTx.dot ?svd ?svu ?_; (case svB => k_asm); (case svF => k_asm); (case svX => k_asm); (case svN => k_asm); (case svT => k_asm); (case svK => first | exact rfl | assumption); (case svd => ktr_room); (case svu => ktr_units); (intro t9 h9 tk9 F9 N9); (try dsimp only); (try k_fold))
  k_with "call builtin:list.append" => (refine' append_K ?apF ?apN ?apU (fun h' F' N' => ?_) ?apz; (case apF => k_asm); (case apN => k_asm); (case apU => k_upd); (case apz => (simp only [List.size_toArray, iv_len, PySem.sizeLine_eq]; omega)); (rw [List.push_toArray, iv_snoc] at N'))
  k_with "RgEnd" => (refine' out_end (by k_asm) (by k_asm) ?oeS hSI hrI hl2 ?oeO; (case oeS => kcj_all); (case oeO => (intro z h1 h2 h3 h4 h5 h6 h7 h8; simp only [h1, h2, h3, h4, h5, h6, h7, h8, if_false])))
  k_with "RgEnd" => (refine' in_end (by k_asm) (by k_asm) ?ieS hOI2 hSI2 hrI2 ?ieL ?ieO; (case ieS => kcj_all); (case ieO => (intro z h1 h2 h3 h4 h5 h6 h7; simp only [h1, h2, h3, h4, h5, h6, h7, if_false])); (case ieL => first | exact inn_no hTx hl2 (by assumption) | exact inn_yes hTx hl2 (by assumption) (by omega)))
  k_with "exec For Name Call cons nil" => (
    (rename IntsAre _ (List.map _ (rangeKs 0 (1 + Int.fmod (List.getD _ (Int.toNat 0) 0) 3 - 0).toNat)) => hIp)
    (rename IntsAre _ (List.map _ (rangeKs 0 (1 + Int.fmod (List.getD _ (Int.toNat 1) 0) 4 - 0).toNat)) => hIq)
    obtain ⟨pl, ep, hpl, dpl, lp1, lp3⟩ := word_pack hIp (by assumption) (by assumption)
    obtain ⟨ql, eq, hql, dql, lq1, lq4⟩ := word_pack hIq (by assumption) (by assumption)
    subst ep eq
    (rename Fr _ _ _ _ => lF'); (rename News _ _ _ _ => lN')
    rw [← hpl, ← hql] at lF'
    have efi := tl_first (Str.ofString "\"") ⟨#[c9.toNat]⟩ (fst1 pl)
    have ese := tl_first (Str.ofString "\"") ⟨#[c9.toNat]⟩ (fst1 ql)
    generalize hfi : Txt.join (Str.ofString "") (List.map (sgn (Str.ofString "\"") ⟨#[c9.toNat]⟩) (fst1 pl)) = fi at lF' efi
    generalize hse : Txt.join (Str.ofString "") (List.map (sgn (Str.ofString "\"") ⟨#[c9.toNat]⟩) (fst1 ql)) = se at lF' ese
    clear ktE ktC hIp hIq
    have hLW := lawW_of hP9 dpl dql lp1 lp3 lq1 lq4
    generalize hU : (fst1 pl).flatMap (spLet (Str.ofString "\"") ⟨#[c9.toNat]⟩) = U at efi hLW
    generalize hV : (fst1 ql).flatMap (spLet (Str.ofString "\"") ⟨#[c9.toNat]⟩) = V at ese hLW
    clear hfi hse hpl hql
    have hul := hLW.lu
    have hvl := hLW.lv
    have hfl : fi.length = U.length := by rw [← tl_len, efi]
    have hsl : se.length = V.length := by rw [← tl_len, ese]
    have d3 : (Str.ofString "...").length = 3 := by decide +kernel
    have d5 : (Str.ofString "257 \"").length = 5 := by decide +kernel
    (rename Fr _ _ _ _ => lF')
    (with_unfolding_all refine' For_invVF lF' ?k1 ?k2 ?_; (case k1 => exact rfl); (case k2 => exact rfl)))
  k_with "eval IfExp" => ((have hzz9 := hLW); (refine IfExp_ ?_))
  k_go0
  all_goals try k_fold
  k_steps)
end Mine
end
end
theorem PySem.Challenge.cw_ux0002_01_holds : PySem.Challenge.rw_ux0002_01.Holds := by
  exact Mine.lawA
