import PyProof.Rows.All
import Wide.All
import OpenK.AllK
import Wide.FinOn
import Open.Tops
import KE.KSortAsk
import KE.KSortKey
import PySem.Challenge.RW_sn0002_01
set_option Elab.async false
set_option compiler.extract_closed false
section
open PySem PySem.W PyProof.Rows
set_option maxRecDepth 100000
set_option maxHeartbeats 8000000
namespace Mine
open_shared tp for PySem.Challenge.pw_sn0002_01 leaving 0
/-- the heap that stands when the law is called -/
noncomputable def K0 (p : Params) : Frag := (List.range 90).zip ((tp.tree_81 p).list 90)
end Mine
end
section
-- part T5
open PySem PySem.W PyProof.Rows
set_option maxRecDepth 100000
set_option maxHeartbeats 4000000
namespace Mine
theorem f_ext : Builtin.extendedBase [.type "object"] = pure (.type "object") := by kernel_rfl
theorem f_turn : Builtin.notOverATurnedClass [.type "object"] = pure () := by kernel_rfl
theorem f_best : Builtin.Slots.bestBase [.type "object"] = pure (.type "object") := by kernel_rfl
theorem f_mh : Builtin.mroHook? (.type "type") = pure none := by kernel_rfl
theorem f_lin : Builtin.linearize [.type "object"] mroOf = pure [.type "object"] := by kernel_rfl
theorem f_mb : Bind.madeBy (.type "object") = pure (some "object.__new__") := by kernel_rfl
theorem f_wk : Builtin.Slots.givesWeak (.type "object") = pure false := by kernel_rfl
theorem f_gd : Builtin.Slots.givesDict (.type "object") = pure false := by kernel_rfl
theorem f_vs : Builtin.Slots.varSize (.type "object") = pure false := by kernel_rfl
theorem f_sn : Builtin.Slots.slotNamesOf (.type "object") = pure [] := by kernel_rfl
theorem f_it : isType (.type "object") = pure true := by kernel_rfl
theorem f_ty : typeOf (.type "object") = pure (.type "type") := by kernel_rfl
theorem f_sub : isSubtype (.type "type") (.type "type") = pure true := by kernel_rfl
end Mine
end

section
-- part T6
open PySem PySem.W PyProof.Rows
set_option maxRecDepth 100000
set_option maxHeartbeats 400000
namespace Mine
abbrev S (x : String) : Str := Str.ofString x

section
variable {prog : Program} {w : World} {A : Around} {E : Value → Shared → Prop} {h : Heap} {g : Array GenState} {d : Drawn} {t : Nat} {os : OsState}
theorem r_collect1 {vS : Addr} {v : Value} {Q : List Value → Shared → Prop}
   (hS : h.get? vS = some { cls := .type "list", data := .seq #[v] 0 }) (hq : ∀ h', (∀ b o, h.get? b = some o → h'.get? b = some o) → Q [v] ⟨h', g, d, t, os⟩) :
   wpAny (model prog w) A (collect (.ref vS)) Q E ⟨h, g, d, t, os⟩ :=
  wpAny_collect_seq (s := ⟨h, g, d, t, os⟩) vS (T := "list") (.inl rfl) hS rfl rfl hq (by show 1 ≤ sizeLine; decide)
theorem r_read {es : Array DictEntry} {vS : Addr} {ts : Nat} {Q : Builtin.Slots.Plan → Shared → Prop}
   (hfind : ∃ kk tt, es.find? (·.key.isStr "__slots__") = some ⟨kk, .str (S "__slots__") tt, .ref vS⟩)
   (hno : es.any (·.key.isStr (S "obj")) = false)
   (hS : h.get? vS = some { cls := .type "list", data := .seq #[.str (S "obj") ts] 0 })
   (hq : ∀ h', (∀ b o, h.get? b = some o → h'.get? b = some o) → Q { names := [S "obj"], dict := false, weak := false, inherited := [] } ⟨h', g, d, t, os⟩) :
   wpAny (model prog w) A (Builtin.Slots.read (S "K") [.type "object"] es) Q E ⟨h, g, d, t, os⟩ := by
  obtain ⟨kk, tt, hf⟩ := hfind
  have f3 := f_best; have f7 := f_wk; have f8 := f_gd; have f9 := f_vs; have f10 := f_sn
  unfold Builtin.Slots.read
  rw [hf]
  have i1 : Builtin.Slots.isIdentifier (S "obj") = some true := by kernel_rfl
  have i2 : Builtin.Slots.mangle (S "K") (S "obj") = S "obj" := by kernel_rfl
  have i3 : (S "obj" == Str.ofString "__dict__") = false := by decide +kernel
  have i4 : (S "obj" == Str.ofString "__weakref__") = false := by decide +kernel
  have i5 : (S "obj" == Str.ofString "__del__") = false := by decide +kernel
  have i6 : (Value.type "object" != Value.type "object") = false := by decide +kernel
  repeat (first | rw [i1] | rw [i2] | rw [hno] | ((with_reducible refine r_collect1 hS ?_); intro h' hk') | wp_step)
  refine cast (congrArg (fun p => Q p _) ?_) (hq h' hk')
  kernel_rfl

end
end Mine
end

section
-- part T8
open PySem PySem.W PyProof.Rows
set_option maxRecDepth 100000
set_option maxHeartbeats 1000000
namespace Mine
theorem tj_find_aux {n : Str} {tt : Nat} {e : DictEntry} (hkey : e.key = .str n tt) : ∀ (l : List DictEntry), e ∈ l → (l.Pairwise fun a b => ∀ n, a.key.isStr n = true → b.key.isStr n = true → False) →
    (l.find? fun e => e.key.isStr n).map (·.val) = some e.val
  | [], h, _ => by cases h
  | x :: l, he, hu => by
    rw [List.find?_cons]
    cases hx : x.key.isStr n with
    | true =>
      rcases List.mem_cons.mp he with rfl | hm
      · rfl
      · exact ((List.pairwise_cons.mp hu).1 e hm n hx (by rw [hkey]; simp [Value.isStr])).elim
    | false =>
      rcases List.mem_cons.mp he with rfl | hm
      · rw [hkey] at hx; simp [Value.isStr] at hx
      · exact tj_find_aux hkey l hm (List.pairwise_cons.mp hu).2
theorem tj_find {es : Array DictEntry} {n : Str} {tt : Nat} {e : DictEntry} (hu : UniqKeys es) (he : e ∈ es) (hkey : e.key = .str n tt) : nsFind es n = some e.val := by
  obtain ⟨l⟩ := es
  have := tj_find_aux hkey l (by simpa using he) hu
  simpa [nsFind, findBy] using this
structure TJ (F : Addr → Obj → Prop) (h : Heap) (ns a : Addr) (m : Str → Option Value) (o : Obj) : Prop where
  fz : ∀ b o', F b o' → h.get? b = some o' ∧ b ≠ ns ∧ b ≠ a
  nsn : h.Ns1 ns m
  cls : h.get? a = some o
  ne : ns ≠ a
section
variable {prog : Program} {w : World} {A : Around} {E : Value → Shared → Prop} {h : Heap} {g : Array GenState} {d : Drawn} {t : Nat} {os : OsState} {h0 : Addr → Obj → Prop} {ns a : Addr} {m : Str → Option Value}
  {c : Value} {dd : Option Addr} {dt : Data} {sl : Array (Option Value)} {M : Model}
theorem TJ.upd {o : Obj} {f : Obj → Obj} (J : TJ h0 h ns a m o) (hf : (f o).isFreed = false) : TJ h0 (h.update a f) ns a m (f o) := by
  have hs : Heap.SameBut a h (h.update a f) := Heap.SameBut.update ..
  exact ⟨fun b o' e => ⟨(hs.2 b (J.fz b o' e).2.2).trans (J.fz b o' e).1, (J.fz b o' e).2⟩, J.nsn.sameBut hs J.ne, Heap.get?_update_self f J.cls hf, J.ne⟩
theorem TJ.nsch {o : Obj} {h' : Heap} {m' : Str → Option Value} (J : TJ h0 h ns a m o) (hn : h'.Ns1 ns m') (hs : Heap.SameBut ns h h') : TJ h0 h' ns a m' o :=
  ⟨fun b o' e => ⟨(hs.2 b (J.fz b o' e).2.1).trans (J.fz b o' e).1, (J.fz b o' e).2⟩, hn, (hs.2 a (Ne.symm J.ne)).trans J.cls, J.ne⟩
theorem TJ.push {o : Obj} (J : TJ h0 h ns a m o) (x : Obj) : TJ h0 (h.push x) ns a m o :=
  ⟨fun b o' e => ⟨Heap.get?_push_of_some _ (J.fz b o' e).1, (J.fz b o' e).2⟩, J.nsn.at fun o e => Heap.get?_push_of_some _ e, Heap.get?_push_of_some _ J.cls, J.ne⟩

theorem tj_setSlot {i : Nat} {v : Option Value} {Q : Unit → Shared → Prop} (J : TJ h0 h ns a m ⟨c, dd, dt, sl⟩) (hf : (⟨c, dd, dt, sl⟩ : Obj).isFreed = false)
   (hq : ∀ h', TJ h0 h' ns a m ⟨c, dd, dt, (sl ++ Array.replicate (i + 1 - sl.size) none).setIfInBounds i v⟩ → Q () ⟨h', g, d, t, os⟩) (hi : i < 100 := by decide) :
   wpAny M A (setSlotAt a i v) Q E ⟨h, g, d, t, os⟩ := by
  unfold setSlotAt
  have : ¬ (i ≥ sizeLine) := by have : sizeLine = 2 ^ 24 := rfl; lia
  dsimp only
  rw [if_neg this]
  refine wpAny_updatePart J.cls (hq _ ?_)
  exact J.upd (f := fun o => { o with slots := (o.slots ++ Array.replicate (i + 1 - o.slots.size) none).setIfInBounds i v }) (by cases dt <;> first | rfl | exact hf)
theorem tj_updateCls {x : ClassData} {f : ClassData → ClassData} {Q : Unit → Shared → Prop} (J : TJ h0 h ns a m ⟨c, dd, .cls x, sl⟩) (hs : (f x).subclasses.length ≤ 1000) (hs2 : (f x).slotNames.length ≤ 1000)
   (hq : ∀ h', TJ h0 h' ns a m ⟨c, dd, .cls (f x), sl⟩ → Q () ⟨h', g, d, t, os⟩) :
   wpAny M A (updateCls a f) Q E ⟨h, g, d, t, os⟩ := by
  unfold updateCls
  have J2 := J.upd (f := Obj.mapCls f) rfl
  refine wpAny_bind (wpAny_load J.cls ?_)
  refine wpAny_bind (wpAny_update J.cls ?_)
  refine wpAny_lookBehind (o := ⟨c, dd, .cls (f x), sl⟩) J2.cls ?_ (hq _ J2)
  show (if _ then _ else _) = none
  rw [if_neg]
  have : sizeLine = 2 ^ 24 := rfl
  simp only [Bool.or_eq_true, decide_eq_true_eq, gt_iff_lt]
  lia
theorem tj_nsGetR {o : Obj} {name : Str} {r : Option Value} {Q : Option Value → Shared → Prop} (J : TJ h0 h ns a m o) (hr : m name = r) (hq : Q r ⟨h, g, d, t, os⟩) : wpAny M A (nsGet ns name) Q E ⟨h, g, d, t, os⟩ :=
  wpAny_nsGet J.nsn.ns (by rw [hr]; exact hq)
theorem r_nsGet0 {es : Array DictEntry} {name : Str} {r : Option Value} {Q : Option Value → Shared → Prop} (hns : h.get? ns = some { cls := .type "dict", data := .dict es }) (hk : StrKeys es) (hr : nsFind es name = r) (hq : Q r ⟨h, g, d, t, os⟩) : wpAny M A (nsGet ns name) Q E ⟨h, g, d, t, os⟩ :=
  wpAny_nsGet (m := nsFind es) ⟨_, es, 0, hns, rfl, hk, fun _ => rfl⟩ (by rw [hr]; exact hq)
theorem len_le_of_nodup {α : Type} [BEq α] [LawfulBEq α] : ∀ (l L : List α), l.Nodup → (∀ x ∈ l, x ∈ L) → l.length ≤ L.length
  | [], _, _, _ => Nat.zero_le _
  | x :: l, L, hn, hs => by
    have hx := hs x (.head _)
    have := len_le_of_nodup l (L.erase x) (List.nodup_cons.mp hn).2 fun y hy => (List.mem_erase_of_ne (a := y) (b := x) (fun (e : y = x) => (List.nodup_cons.mp hn).1 (by rw [← e]; exact hy))).mpr (hs y (.tail _ hy))
    rw [List.length_erase_of_mem hx] at this
    have := List.length_pos_of_mem hx
    rw [List.length_cons]; lia
def keyName (e : DictEntry) : Str := match e.key with | .str s _ => s | _ => S ""
theorem size_le_dom {es : Array DictEntry} {m : Str → Option Value} {L : List Str} (hk : StrKeys es) (hu : UniqKeys es) (hm : ∀ n, nsFind es n = m n) (hL : ∀ n, m n ≠ none → n ∈ L) : es.size ≤ L.length := by
  have : (es.toList.map keyName).length ≤ L.length := by
    apply len_le_of_nodup
    · show ((es.toList.map keyName).Pairwise (· ≠ ·))
      rw [List.pairwise_map]
      unfold UniqKeys at hu
      refine List.Pairwise.imp_of_mem (fun {a b} ha hb h e => ?_) hu
      obtain ⟨n, t, hn⟩ := hk a (by simpa using ha)
      obtain ⟨n', t', hn'⟩ := hk b (by simpa using hb)
      simp only [keyName, hn, hn'] at e
      subst e
      exact h n (by rw [hn]; simp [Value.isStr]) (by rw [hn']; simp [Value.isStr])
    · intro x hx
      obtain ⟨e, he, rfl⟩ := List.mem_map.mp hx
      obtain ⟨n, t, hn⟩ := hk e (by simpa using he)
      have hf := tj_find hu (by simpa using he) hn
      refine hL _ ?_
      rw [← hm]
      simp only [keyName, hn]
      rw [hf]
      exact fun h => nomatch h
  simpa using this
theorem tj_nsSetV {o : Obj} {name : Str} {v : Value} {Q : Unit → Shared → Prop} (L : List Str) (J : TJ h0 h ns a m o) (hl : L.length ≤ 1000) (hL : ∀ n, m n ≠ none → n ∈ L)
   (hq : ∀ h', TJ h0 h' ns a (fun x => if x = name then some v else m x) o → Q () ⟨h', g, d, t + 1, os⟩) : wpAny M A (nsSetByValue ns name v) Q E ⟨h, g, d, t, os⟩ := by
  obtain ⟨ob, es, ep, h1, h2, hk, hu, hm⟩ := id J.nsn
  have h3 := size_le_dom hk hu hm hL
  unfold nsSetByValue
  refine wpAny_bind (wpAny_loadPart h1 ?_)
  rw [h2]
  have : ¬ (es.size > sizeLine) := by have : sizeLine = 2 ^ 24 := rfl; lia
  simp only [this, decide_false, Bool.false_and, Bool.false_eq_true, if_false]
  exact wpAny_nsSet1 J.nsn fun h' hn hs => hq h' (J.nsch hn hs)
theorem tj_mroOf {x : ClassData} {Q : List Value → Shared → Prop} (J : TJ h0 h ns a m ⟨c, dd, .cls x, sl⟩) (hq : Q x.mro ⟨h, g, d, t, os⟩) : wpAny M A (mroOf (.ref a)) Q E ⟨h, g, d, t, os⟩ := by
  have hC := J.cls
  unfold mroOf
  repeat (any_goals (first | assumption | wp_step))
theorem tj_typeLookup {x : ClassData} {name : Str} {y : Option Value} {Q : Option Value → Shared → Prop} (J : TJ h0 h ns a m ⟨c, dd, .cls x, sl⟩) (hm : x.mro = [.ref a, .type "object"]) (hx : x.ns = ns) (hn : m name = none)
   (hy : typeLookup (.type "object") name = pure y) (hq : Q y ⟨h, g, d, t, os⟩) : wpAny M A (typeLookup (.ref a) name) Q E ⟨h, g, d, t, os⟩ := by
  have hmro : mroOf (.type "object") = pure [.type "object"] := by kernel_rfl
  have hrest : lookupAlong [.type "object"] name = pure y := by rw [typeLookup_eq, hmro] at hy; exact hy
  rw [typeLookup_eq]
  refine wpAny_bind (tj_mroOf J ?_)
  rw [hm, lookupAlong_cons]
  refine wpAny_bind ?_
  unfold classOwn
  refine wpAny_bind ?_
  unfold classData
  refine wpAny_bind (wpAny_load J.cls (wpAny_pure ?_))
  rw [hx]
  refine tj_nsGetR J hn ?_
  exact wpAny_of_eq hrest hq
theorem tj_nsSet {o : Obj} {name : Str} {v : Value} {Q : Unit → Shared → Prop} (J : TJ h0 h ns a m o)
   (hq : ∀ h', TJ h0 h' ns a (fun x => if x = name then some v else m x) o → Q () ⟨h', g, d, t + 1, os⟩) : wpAny M A (nsSet ns name v) Q E ⟨h, g, d, t, os⟩ :=
  wpAny_nsSet1 J.nsn fun h' hn hs => hq h' (J.nsch hn hs)
theorem tj_nsDel {o : Obj} {name : Str} {Q : Bool → Shared → Prop} (J : TJ h0 h ns a m o)
   (hq : ∀ h', TJ h0 h' ns a (fun x => if x = name then none else m x) o → Q (m name).isSome ⟨h', g, d, t, os⟩) : wpAny M A (nsDel ns name) Q E ⟨h, g, d, t, os⟩ :=
  wpAny_nsDel1 J.nsn fun h' hn hs => hq h' (J.nsch hn hs)
theorem tj_slotAt {i : Nat} {Q : Option Value → Shared → Prop} (J : TJ h0 h ns a m ⟨c, dd, dt, sl⟩) (hq : Q (sl[i]?).join ⟨h, g, d, t, os⟩) : wpAny M A (slotAt a i) Q E ⟨h, g, d, t, os⟩ := by
  unfold slotAt
  exact wpAny_bind (wpAny_loadPart J.cls (wpAny_pure hq))
theorem tj_set0 {v : Option Value} {Q : Unit → Shared → Prop} (J : TJ h0 h ns a m ⟨c, dd, dt, #[]⟩) (hf : (⟨c, dd, dt, #[]⟩ : Obj).isFreed = false)
   (hq : ∀ h', TJ h0 h' ns a m ⟨c, dd, dt, #[v]⟩ → Q () ⟨h', g, d, t, os⟩) : wpAny M A (setSlotAt a 0 v) Q E ⟨h, g, d, t, os⟩ :=
  tj_setSlot J hf hq
theorem tj_set2 {y0 : Option Value} {v : Option Value} {Q : Unit → Shared → Prop} (J : TJ h0 h ns a m ⟨c, dd, dt, #[y0]⟩) (hf : (⟨c, dd, dt, #[y0]⟩ : Obj).isFreed = false)
   (hq : ∀ h', TJ h0 h' ns a m ⟨c, dd, dt, #[y0, none, v]⟩ → Q () ⟨h', g, d, t, os⟩) : wpAny M A (setSlotAt a 2 v) Q E ⟨h, g, d, t, os⟩ :=
  tj_setSlot J hf hq
theorem tj_set3 {y0 y1 y2 : Option Value} {v : Option Value} {Q : Unit → Shared → Prop} (J : TJ h0 h ns a m ⟨c, dd, dt, #[y0, y1, y2]⟩) (hf : (⟨c, dd, dt, #[y0, y1, y2]⟩ : Obj).isFreed = false)
   (hq : ∀ h', TJ h0 h' ns a m ⟨c, dd, dt, #[y0, y1, y2, v]⟩ → Q () ⟨h', g, d, t, os⟩) : wpAny M A (setSlotAt a 3 v) Q E ⟨h, g, d, t, os⟩ :=
  tj_setSlot J hf hq
theorem tj_set4 {y0 y1 y2 y3 : Option Value} {v : Option Value} {Q : Unit → Shared → Prop} (J : TJ h0 h ns a m ⟨c, dd, dt, #[y0, y1, y2, y3]⟩) (hf : (⟨c, dd, dt, #[y0, y1, y2, y3]⟩ : Obj).isFreed = false)
   (hq : ∀ h', TJ h0 h' ns a m ⟨c, dd, dt, #[y0, y1, y2, y3, v]⟩ → Q () ⟨h', g, d, t, os⟩) : wpAny M A (setSlotAt a 4 v) Q E ⟨h, g, d, t, os⟩ :=
  tj_setSlot J hf hq
theorem tj_set5 {y0 y1 y2 y3 y4 : Option Value} {v : Option Value} {Q : Unit → Shared → Prop} (J : TJ h0 h ns a m ⟨c, dd, dt, #[y0, y1, y2, y3, y4]⟩) (hf : (⟨c, dd, dt, #[y0, y1, y2, y3, y4]⟩ : Obj).isFreed = false)
   (hq : ∀ h', TJ h0 h' ns a m ⟨c, dd, dt, #[y0, y1, y2, y3, y4, v]⟩ → Q () ⟨h', g, d, t, os⟩) : wpAny M A (setSlotAt a 5 v) Q E ⟨h, g, d, t, os⟩ :=
  tj_setSlot J hf hq
theorem tj_slotAtR {i : Nat} {r : Option Value} {Q : Option Value → Shared → Prop} (J : TJ h0 h ns a m ⟨c, dd, dt, sl⟩) (hr : (sl[i]?).join = r) (hq : Q r ⟨h, g, d, t, os⟩) : wpAny M A (slotAt a i) Q E ⟨h, g, d, t, os⟩ :=
  tj_slotAt J (by rw [hr]; exact hq)
theorem tj_mk {T : String} {vs : List Value} {o : Obj} {Q : Value → Shared → Prop} (J : TJ h0 h ns a m o) (hz : vs.length ≤ 1000)
   (hq : ∀ h' x, TJ (fun b o' => h0 b o' ∨ (b = x ∧ o' = { cls := .type T, data := .fields vs.toArray })) h' ns a m o → Q (.ref x) ⟨h', g, d, t, os⟩) :
   wpAny M A (newFields T vs) Q E ⟨h, g, d, t, os⟩ := by
  unfold newFields
  obtain ⟨ob, _, _, hob, _⟩ := id J.nsn
  refine wpAny_newObj_type (s := ⟨h, g, d, t, os⟩) (hq _ h.objs.size ⟨fun b o' e => ?_, (J.push _).nsn, (J.push _).cls, J.ne⟩) (by show vs.toArray.size ≤ _; rw [List.size_toArray]; have : sizeLine = 2 ^ 24 := rfl; lia)
  rcases e with e | ⟨rfl, rfl⟩
  · exact (J.push _).fz b o' e
  · exact ⟨Heap.get?_push_size _ rfl, Nat.ne_of_gt (Heap.lt_size hob), Nat.ne_of_gt (Heap.lt_size J.cls)⟩
theorem r_dict {es : Array DictEntry} {Q : Value → Shared → Prop} (hz : es.size ≤ 1000)
   (hq : ∀ h' x, (∀ b o, h.get? b = some o → h'.get? b = some o) → h'.get? x = some { cls := .type "dict", data := .dict es } → h.get? x = none → Q (.ref x) ⟨h', g, d, t, os⟩) :
   wpAny M A (newObj (.type "dict") (.dict es)) Q E ⟨h, g, d, t, os⟩ := by
  refine wpAny_newObj_type (s := ⟨h, g, d, t, os⟩) (hq _ _ (fun b o e => Heap.get?_push_of_some _ e) (Heap.get?_push_size _ rfl) ?_) (by show es.size ≤ _; have : sizeLine = 2 ^ 24 := rfl; lia)
  exact Heap.get?_none_of_le (Nat.le_refl _)
theorem r_clsAlloc {es : Array DictEntry} {o : Obj} {Q : Addr → Shared → Prop} (hf : o.isFreed = false) (hk : ∀ b o', h0 b o' → h.get? b = some o' ∧ b ≠ ns) (hn : h.get? ns = some { cls := .type "dict", data := .dict es })
   (k1 : StrKeys es) (k2 : UniqKeys es)
   (hq : ∀ h' x, TJ h0 h' ns x (nsFind es) o → Q x ⟨h', g, d, t, os⟩) :
   wpAny M A (alloc o) Q E ⟨h, g, d, t, os⟩ :=
  wpAny_alloc (hq _ _ ⟨fun b o' e => ⟨Heap.get?_push_of_some _ (hk b o' e).1, (hk b o' e).2, Nat.ne_of_lt (Heap.lt_size (hk b o' e).1)⟩, ⟨_, es, 0, Heap.get?_push_of_some _ hn, rfl, k1, k2, fun _ => rfl⟩, Heap.get?_push_size _ hf, Nat.ne_of_lt (Heap.lt_size hn)⟩)
theorem tj_entries {o : Obj} {Q : Array DictEntry → Shared → Prop} (J : TJ h0 h ns a m o) (hq : ∀ es, StrKeys es → (∀ e ∈ es, ∀ n t, e.key = .str n t → m n = some e.val) → Q es ⟨h, g, d, t, os⟩) : wpAny M A (dictEntries ns) Q E ⟨h, g, d, t, os⟩ := by
  obtain ⟨o', es, ep, ho, hd, hk, hu, hm⟩ := J.nsn
  refine wpAny_dictEntries ho hd (hq es hk fun e he n tt hkey => ?_)
  rw [← hm]
  exact tj_find hu he hkey
end
end Mine
end

section
-- part T8b
open PySem PySem.W PyProof.Rows
set_option maxRecDepth 100000
set_option maxHeartbeats 1000000
namespace Mine
section
variable {prog : Program} {w : World} {A : Around} {E : Value → Shared → Prop} {h : Heap} {g : Array GenState} {d : Drawn} {t : Nat} {os : OsState} {h0 : Addr → Obj → Prop} {ns a : Addr} {m : Str → Option Value}
  {c : Value} {dd : Option Addr} {dt : Data} {sl : Array (Option Value)} {M : Model}
abbrev mdObj (tk : Nat) (a : Addr) : Obj := { cls := .type "member_descriptor", data := .fields #[.str (S "obj") tk, .ref a, .builtin "proto.slot", .builtin "proto.slot#set", rawInt 0] }
theorem r_install {x : ClassData} {Q : Unit → Shared → Prop} {L : List Str} (hl : L.length ≤ 1000) (hL : ∀ n, m n ≠ none → n ∈ L) (ho : m (S "obj") = none)
   (J : TJ h0 h ns a m ⟨c, dd, .cls x, sl⟩) (hsub : x.subclasses.length ≤ 1000)
   (hq : ∀ h' md tk tk', TJ (fun b o' => h0 b o' ∨ (b = md ∧ o' = mdObj tk' a)) h' ns a (fun y => if y = S "obj" then some (.ref md) else m y) ⟨c, dd, .cls { x with hasDict := false, slotNames := [S "obj"] }, sl⟩ → Q () ⟨h', g, d, tk, os⟩) :
   wpAny (model prog w) A (Builtin.Slots.install (.ref a) ns [.type "object"] { names := [S "obj"], dict := false, weak := false, inherited := [] }) Q E ⟨h, g, d, t, os⟩ := by
  have f8 := f_gd
  unfold Builtin.Slots.install
  repeat (first | ((with_reducible refine' tj_mk (by assumption) ?hz ?_); (case hz => simp); intro _ md J) | ((with_reducible refine' tj_nsGetR (by assumption) ?hr ?_); (case hr => assumption)) | ((with_reducible refine' tj_nsSetV L (by assumption) hl ?hL ?_); (case hL => exact hL); intro _ J) | ((with_reducible refine' tj_updateCls (by assumption) ?u1 ?u2 ?_); (case u1 => exact hsub); (case u2 => simp); intro _ J) | wp_step)
  exact hq _ _ _ _ J
end
end Mine
end

section
-- part KB
open PySem PySem.W PyProof.Rows PySem.W.X
set_option maxRecDepth 100000
set_option maxHeartbeats 8000000
namespace Mine
noncomputable def KT (p : Params) : Frag := (K0 p).filter fun x => x.1 != 30 && x.1 != 79 && x.1 != 86
abbrev kq : Str := ⟨#[99, 109, 112, 95, 116, 111, 95, 107, 101, 121, 46, 60, 108, 111, 99, 97, 108, 115, 62, 46, 75]⟩
abbrev kCls (a ns : Addr) (B : Addr) (tn u1 : Nat) : Obj :=
  { cls := .type "type", data := .cls { name := S "K", bases := [.type "object"], mro := [.ref a, .type "object"], ns := ns, qualname := kq, hasDict := false, slotNames := [S "obj"] },
    slots := #[some (.ref B), none, some (.str (S "K") tn), some (.str kq u1), some (.builtin "object.__new__"), some (.bool false)] }
theorem mem_keep {h h' : Heap} {news : List (Addr × Obj)} (D : Mem h h' [] news) : ∀ b o, h.get? b = some o → h'.get? b = some o := fun b o e => D.keep b o e (by show (hasCls o || true) = true; simp)
theorem mem_at {h h' : Heap} {chg news : List (Addr × Obj)} (D : Mem h h' chg news) (i : Nat) {x : Addr} {o : Obj} (e : news[i]? = some (x, o)) : h'.get? x = some o ∧ h.get? x = none :=
  ⟨D.at i x o e, (D.nw _ (List.mem_of_getElem? e)).2⟩
section
local macro_rules | `(tactic| x_close) => `(tactic| (refine ⟨_, _, _, rfl, rfl, mem_keep (by assumption), mem_at (by assumption) 0 rfl⟩))
theorem r_super {w : World} {A : Around} {h : Heap} {d : Drawn} {t : Nat} {os : OsState} {a ns B : Addr} {tn u1 : Nat} {o2 : Obj} (KX : Frag.In (KT w.params) h) (hC : h.get? a = some (kCls a ns B tn u1))
   (hu : A.units < 5000) (hd : A.depth < 500) :
   wpAny (model Challenge.pw_sn0002_01 w) A (PySem.call (.type "super") [.ref a, .ref a])
     (fun v s' => ∃ h' x tk, v = .ref x ∧ s' = ⟨h', #[], d, tk, os⟩ ∧ (∀ b o, h.get? b = some o → h'.get? b = some o) ∧ h'.get? x = some { cls := .type "super", data := .fields #[.ref a, .ref a, .ref a] } ∧ h.get? x = none) (fun _ _ => False) ⟨h, #[], d, t, os⟩ := by
  unfold kCls at hC
  x_run
end
section
local macro_rules | `(tactic| x_close) => `(tactic| (refine ⟨_, _, _, rfl, rfl, mem_keep (by assumption), mem_at (by assumption) 0 rfl⟩))
theorem r_cget {w : World} {A : Around} {h : Heap} {d : Drawn} {t : Nat} {os : OsState} {a ns B : Addr} {tn u1 : Nat} (KX : Frag.In (KT w.params) h) (hC : h.get? a = some (kCls a ns B tn u1))
   (hu : A.units < 5000) (hd : A.depth < 500) :
   wpAny (model Challenge.pw_sn0002_01 w) A (PySem.call (.builtin "classmethod_descriptor.__get__") [.builtin "object.__init_subclass__", .none, .ref a])
     (fun v s' => ∃ h' x tk, v = .ref x ∧ s' = ⟨h', #[], d, tk, os⟩ ∧ (∀ b o, h.get? b = some o → h'.get? b = some o) ∧ h'.get? x = some { cls := .type "builtin_function_or_method", data := .fields #[.builtin "object.__init_subclass__", .ref a] } ∧ h.get? x = none) (fun _ _ => False) ⟨h, #[], d, t, os⟩ := by
  unfold kCls at hC
  x_run
end
section
local macro_rules | `(tactic| x_close) => `(tactic| (first | exact ⟨_, _, rfl, mem_keep (by assumption)⟩ | exact ⟨_, _, rfl, fun _ _ e => e⟩))
theorem r_isub {w : World} {A : Around} {h : Heap} {d : Drawn} {t : Nat} {os : OsState} {a ns B x : Addr} {tn u1 : Nat} (KX : Frag.In (KT w.params) h) (hC : h.get? a = some (kCls a ns B tn u1))
   (hX : h.get? x = some { cls := .type "builtin_function_or_method", data := .fields #[.builtin "object.__init_subclass__", .ref a] })
   (hu : A.units < 5000) (hd : A.depth < 500) :
   wpAny (model Challenge.pw_sn0002_01 w) A (PySem.call (.ref x) [] [])
     (fun _ s' => ∃ h' tk, s' = ⟨h', #[], d, tk, os⟩ ∧ (∀ b o, h.get? b = some o → h'.get? b = some o)) (fun _ _ => False) ⟨h, #[], d, t, os⟩ := by
  unfold kCls at hC
  x_run
end
end Mine
end

section
-- part KC
open PySem PySem.W PyProof.Rows PySem.W.X
set_option maxRecDepth 100000
set_option maxHeartbeats 1000000
namespace Mine
section
variable {w : World} {A : Around} {E : Value → Shared → Prop} {h : Heap} {d : Drawn} {t : Nat} {os : OsState}
theorem r_noOpaque {a : Addr} {Q : Option Str → Shared → Prop} {M : Model} {g : Array GenState} (h2 : h.get? 2 = some { cls := .none, data := .dict #[] }) (hq : Q none ⟨h, g, d, t, os⟩) : wpAny M A (opaqueClassAbove (.ref a)) Q E ⟨h, g, d, t, os⟩ := by
  unfold opaqueClassAbove anyOpaqueLoaded
  refine wpAny_bind (wpAny_bind (wpAny_nsGet (s := ⟨h, g, d, t, os⟩) (m := nsFind #[]) ⟨_, #[], 0, h2, rfl, fun e he => by simp at he, fun _ => rfl⟩ ?_))
  exact wpAny_pure (wpAny_pure hq)
theorem r_ga {so a ns B : Addr} {tn u1 : Nat} {Q : Value → Shared → Prop} {ex : Bool} (KX : Frag.In (KT w.params) h) (hC : h.get? a = some (kCls a ns B tn u1))
   (hso : h.get? so = some { cls := .type "super", data := .fields #[.ref a, .ref a, .ref a] }) (hu : A.units < 4900) (hd : A.depth < 490)
   (hq : ∀ h' x tk, (∀ b o, h.get? b = some o → h'.get? b = some o) → h'.get? x = some { cls := .type "builtin_function_or_method", data := .fields #[.builtin "object.__init_subclass__", .ref a] } → Q (.ref x) ⟨h', #[], d, tk, os⟩) :
   wpAny (model Challenge.pw_sn0002_01 w) A (getAttr (.ref so) "__init_subclass__" ex) Q E ⟨h, #[], d, t, os⟩ := by
  have h2 : h.get? 2 = some { cls := .none, data := .dict #[] } := KX _ _ (by kernel_rfl)
  have hlk := F.ks_slot_super_ga.lookup
  have hT : ∀ t', (⟨h, #[], d, t', os⟩ : Shared).TypeIs (.ref so) "super" := fun _ => ⟨_, hso, rfl⟩
  unfold getAttr getAttrBy
  refine wpAny_bind (wpAny_mkText (wpAny_holding (wpAny_bind (wpAny_typeOf (hT _) (wpAny_bind (wpAny_of_eq hlk ?_))))))
  show wpAny _ _ (getAttrByItsOwn (.ref so) (.str _ t) (.type "super") (.builtin "super.__getattribute__") true ex) _ _ _
  unfold getAttrByItsOwn hookBefore callGetattribute boundAndCalled
  refine wpAny_bind (wpAny_of_eq (show (if onTheHeap (.type "super") then typeLookup (.type "super") "__getattr__" else pure none) = pure none from rfl) ?_)
  refine wpAny_bind (wpAny_attempt (wpAny_holding ?_))
  have hex : (ex && onTheHeap (.builtin "super.__getattribute__")) = false := by cases ex <;> rfl
  rw [hex]
  show wpAny _ _ (bindSpecial (.builtin "super.__getattribute__") (.ref so) >>= _) _ _ _
  refine wpAny_bind (wpAny_of_eq (F.ks_slot_super_ga.bind _) ?_)
  have hdt : ({ cls := .type "super", dict := none, data := .fields #[.ref a, .ref a, .ref a], slots := #[] } : Obj).data = .fields #[.ref a, .ref a, .ref a] := rfl
  have f0 : (#[.ref a, .ref a, .ref a] : Array Value)[0]? = some (.ref a) := rfl
  have f1 : (#[.ref a, .ref a, .ref a] : Array Value)[1]? = some (.ref a) := rfl
  have f2 : (#[.ref a, .ref a, .ref a] : Array Value)[2]? = some (.ref a) := rfl
  have o1 : classOwn (.type "object") "__init_subclass__" = pure (some (.builtin "object.__init_subclass__")) := by kernel_rfl
  have o2 : typeOf (.builtin "object.__init_subclass__") = pure (.type "classmethod_descriptor") := by show builtinType _ = _; rw [builtinType_eq_fast]; kernel_rfl
  have o3 : typeLookup (.type "classmethod_descriptor") "__get__" = pure (some (.builtin "classmethod_descriptor.__get__")) := by rw [typeLookup_type, builtinLookup_eq_fast]; kernel_rfl
  have hl : ([Value.ref a, .type "object"].dropWhile (· != .ref a)).drop 1 = [.type "object"] := by simp
  have hm : ∀ {M : Model} {A' : Around} {Q' : List Value → Shared → Prop} {E' : Value → Shared → Prop} {t' : Nat}, Q' [Value.ref a, .type "object"] ⟨h, #[], d, t', os⟩ → wpAny M A' (mroOf (.ref a)) Q' E' ⟨h, #[], d, t', os⟩ := fun hq' => by
    unfold mroOf classData
    exact wpAny_bind (wpAny_bind (wpAny_load hC (wpAny_pure (wpAny_pure hq'))))
  refine wpAny_mono (Q := fun v s' => ∃ h' x tk, v = .ref x ∧ s' = ⟨h', #[], d, tk, os⟩ ∧ (∀ b o, h.get? b = some o → h'.get? b = some o) ∧ h'.get? x = some { cls := .type "builtin_function_or_method", data := .fields #[.builtin "object.__init_subclass__", .ref a] } ∧ h.get? x = none) (E := fun _ _ => False)
    (wpAny_call_entry F.ks_slot_super_ga (hT _) F.ks_entry_super_ga ?_ (F.ks_gaArgs_super _ _)) (fun v s' hv => ?_) fun _ _ z => z.elim
  · have hif : (if (Value.ref a == Value.ref a) = true then Value.none else Value.ref a) = .none := by simp
    unfold Builtin.«super.__getattribute__»
    repeat (first | rw [hif] | (with_reducible refine wpAny_field hso hdt f0 ?_) | (with_reducible refine wpAny_field hso hdt f1 ?_) | (with_reducible refine wpAny_field hso hdt f2 ?_) | (with_reducible refine r_noOpaque h2 ?_) | (with_reducible refine hm ?_; rw [hl]) | ((with_reducible refine' wpAny_mono (r_cget KX hC ?k1 ?k2) ?k3 ?k4); (case k1 => (show A.units + 1 < 5000; lia)); (case k2 => (show A.depth < 500; lia)); (case k4 => exact fun _ _ z => z.elim); intro v9 s9 h9) | wp_step)
    exact ⟨_, rfl, h9⟩
  · obtain ⟨h', x, tk, rfl, rfl, hk, hx, hn⟩ := hv
    exact wpAny_pure (hq h' x tk hk hx)
end
end Mine
end

section
-- part KD
open PySem PySem.W PyProof.Rows PySem.W.X
set_option maxRecDepth 100000
set_option maxHeartbeats 4000000
namespace Mine
section
variable {prog : Program} {w : World} {A : Around} {E : Value → Shared → Prop} {h : Heap} {g : Array GenState} {d : Drawn} {t : Nat} {os : OsState} {l : List Value}
theorem r_not {Q : Unit → Shared → Prop} {s : Shared} {M : Model} (hl : l = [.type "object"]) (hq : Q () s) : wpAny M A (Builtin.notOverATurnedClass l) Q E s := by rw [hl]; exact wpAny_of_eq f_turn hq
theorem r_ext {Q : Value → Shared → Prop} {s : Shared} {M : Model} (hl : l = [.type "object"]) (hq : Q (.type "object") s) : wpAny M A (Builtin.extendedBase l) Q E s := by rw [hl]; exact wpAny_of_eq f_ext hq
theorem r_lin {Q : List Value → Shared → Prop} {s : Shared} {M : Model} (hl : l = [.type "object"]) (hq : Q [.type "object"] s) : wpAny M A (Builtin.linearize l mroOf) Q E s := by rw [hl]; exact wpAny_of_eq f_lin hq
theorem r_anyM1 {f : Value → Sem Bool} {Q : Bool → Shared → Prop} {s : Shared} {M : Model} (hl : l = [.type "object"]) (hx : f (.type "object") = pure false) (hq : Q false s) : wpAny M A (List.anyM f l) Q E s := by
  rw [hl]
  unfold List.anyM
  rw [hx]
  exact wpAny_bind (wpAny_pure (by unfold List.anyM; exact wpAny_pure hq))
theorem r_readL {es : Array DictEntry} {vS : Addr} {ts : Nat} {Q : Builtin.Slots.Plan → Shared → Prop} (hl : l = [.type "object"])
   (hfind : ∃ kk tt, es.find? (·.key.isStr "__slots__") = some ⟨kk, .str (S "__slots__") tt, .ref vS⟩)
   (hno : es.any (·.key.isStr (S "obj")) = false)
   (hS : h.get? vS = some { cls := .type "list", data := .seq #[.str (S "obj") ts] 0 })
   (hq : ∀ h', (∀ b o, h.get? b = some o → h'.get? b = some o) → Q { names := [S "obj"], dict := false, weak := false, inherited := [] } ⟨h', g, d, t, os⟩) :
   wpAny (model prog w) A (Builtin.Slots.read (S "K") l es) Q E ⟨h, g, d, t, os⟩ := by rw [hl]; exact r_read hfind hno hS hq
end

def SNone (h : Heap) (v : Value) : Prop := ∃ T, (∀ s : Shared, (∀ b o, h.get? b = some o → s.heap.get? b = some o) → s.TypeIs v T) ∧ typeLookup (.type T) "__set_name__" = pure none ∧ ∀ n t, Builtin.laidUnderItsOwnName (.str n t) v = false
theorem TJ.keeps {F : Addr → Obj → Prop} {h h' : Heap} {ns a : Addr} {m : Str → Option Value} {o : Obj} (J : TJ F h ns a m o) (k : ∀ b o, h.get? b = some o → h'.get? b = some o) : TJ F h' ns a m o :=
  ⟨fun b o' e => ⟨k _ _ (J.fz b o' e).1, (J.fz b o' e).2⟩, J.nsn.at fun o e => k _ _ e, k _ _ J.cls, J.ne⟩
section
variable {prog : Program} {w : World} {A : Around} {E : Value → Shared → Prop} {h : Heap} {g : Array GenState} {d : Drawn} {t : Nat} {os : OsState}
theorem r_each {M : Model} {β : Type} {es : Array DictEntry} {f : DictEntry → β → Sem (ForInStep β)} {b : β} {Q : β → Shared → Prop} {s : Shared}
   (hf : ∀ e ∈ es, ∀ Q' : ForInStep β → Shared → Prop, Q' (.yield b) s → wpAny M A (f e b) Q' E s) (hq : Q b s) : wpAny M A (forIn es b f) Q E s := by
  rw [← Array.forIn_toList]
  refine wpAny_forIn_list f (fun rest b' s' => b' = b ∧ s' = s ∧ ∀ e ∈ rest, e ∈ es) Q (fun x rest b' s' hI => ?_) (fun b' s' hI => ?_) es.toList b ⟨rfl, rfl, fun e he => by simpa using he⟩
  · obtain ⟨rfl, rfl, hm⟩ := hI
    exact hf x (hm x (.head _)) _ ⟨rfl, rfl, fun e he => hm e (.tail _ he)⟩
  · obtain ⟨rfl, rfl, _⟩ := hI
    exact hq
theorem r_installL {ns a : Addr} {m : Str → Option Value} {h0 : Addr → Obj → Prop} {c : Value} {dd : Option Addr} {sl : Array (Option Value)} {x : ClassData} {Q : Unit → Shared → Prop} {L : List Str} {l : List Value} {pl : Builtin.Slots.Plan} (hb : l = [.type "object"]) (hp : pl = { names := [S "obj"], dict := false, weak := false, inherited := [] }) (hl : L.length ≤ 1000) (hL : ∀ n, m n ≠ none → n ∈ L) (ho : m (S "obj") = none)
   (J : TJ h0 h ns a m ⟨c, dd, .cls x, sl⟩) (hsub : x.subclasses.length ≤ 1000)
   (hq : ∀ h' md tk tk', TJ (fun b o' => h0 b o' ∨ (b = md ∧ o' = mdObj tk' a)) h' ns a (fun y => if y = S "obj" then some (.ref md) else m y) ⟨c, dd, .cls { x with hasDict := false, slotNames := [S "obj"] }, sl⟩ → Q () ⟨h', g, d, tk, os⟩) :
   wpAny (model prog w) A (Builtin.Slots.install (.ref a) ns l pl) Q E ⟨h, g, d, t, os⟩ := by rw [hb, hp]; exact r_install hl hL ho J hsub hq
theorem r_note {M : Model} {a : Addr} {Q : Unit → Shared → Prop} {s : Shared} (hq : Q () s) : wpAny M A (Builtin.noteSubclassOfBuiltin "object" a) Q E s :=
  wpAny_of_eq (a := ()) (by kernel_rfl) hq
abbrev mFin (es : Array DictEntry) (md : Addr) : Str → Option Value := fun x => if x = Str.ofString "__doc__" then some .none else if x = S "obj" then some (.ref md) else if x = Str.ofString "__qualname__" then none else nsFind es x
theorem ne_of_get {h : Heap} {b c : Addr} {o : Obj} (e : h.get? b = some o) (n : h.get? c = none) : b ≠ c := by
  rintro rfl; rw [n] at e; cases e
theorem r_spec {M : Model} {v : Value} {T : String} {Q : Option Value → Shared → Prop} {s : Shared} {n : Str} (hT : s.TypeIs v T) (hl : typeLookup (.type T) n = pure none) (hq : Q none s) : wpAny M A (specialOf v n) Q E s := by
  unfold specialOf
  exact wpAny_bind (wpAny_typeOf hT (wpAny_of_eq hl hq))
theorem sn_of {h' : Heap} {es : Array DictEntry} {md ns a : Addr} {tk' : Nat} {m : Str → Option Value} {o : Obj} (J : TJ (fun b o => h.get? b = some o ∨ (b = md ∧ o = mdObj tk' a)) h' ns a m o) (hval : ∀ n v, nsFind es n = some v → SNone h v)
   {n : Str} {v : Value} (hv : mFin es md n = some v) : ∃ T, (∀ g d t os, (⟨h', g, d, t, os⟩ : Shared).TypeIs v T) ∧ typeLookup (.type T) "__set_name__" = pure none ∧ ∀ n t, Builtin.laidUnderItsOwnName (.str n t) v = false := by
  unfold mFin at hv
  split at hv
  · cases hv
    refine ⟨"NoneType", fun _ _ _ _ => ?_, ?_, fun _ _ => rfl⟩
    · rfl
    · rw [typeLookup_type, builtinLookup_eq_fast]; kernel_rfl
  · split at hv
    · cases hv
      refine ⟨"member_descriptor", fun _ _ _ _ => ⟨_, (J.fz md _ (.inr ⟨rfl, rfl⟩)).1, rfl⟩, ?_, fun _ _ => rfl⟩
      rw [typeLookup_type, builtinLookup_eq_fast]; kernel_rfl
    · split at hv
      · cases hv
      · obtain ⟨T, h1, h2, h3⟩ := hval n v hv
        exact ⟨T, fun g d t os => h1 _ fun b o e => (J.fz b o (.inl e)).1, h2, h3⟩
theorem tnew {tn ts u1 : Nat} {v9 : Value} {N B vS : Addr} {es : Array DictEntry} {ep : Nat} {Q : PySem.Fin → Shared → Prop} (KX : Frag.In (KT w.params) h) (hu4 : A.units < 4800) (hd4 : A.depth < 480)
   (hN : h.get? N = some { cls := .type "dict", data := .dict es ep })
   (hk : StrKeys es) (hu : UniqKeys es) (hz : es.size ≤ 100)
   (hB : h.get? B = some { cls := .type "tuple", data := .seq #[.type "object"] 0 })
   (hS : h.get? vS = some { cls := .type "list", data := .seq #[.str (S "obj") ts] 0 }) (hNs : (N == sysModules) = false)
   (L : List Str) (hl : L.length ≤ 1000) (hL : ∀ n, nsFind es n ≠ none → n ∈ L) (hfind : ∃ kk tt, es.find? (·.key.isStr "__slots__") = some ⟨kk, .str (S "__slots__") tt, .ref vS⟩)
   (hno : es.any (·.key.isStr (S "obj")) = false) (hmod : es.any (·.key.isStr "__module__") = true) (hdel : es.any (·.key.isStr "__del__") = false)
   (m1 : nsFind es "__qualname__" = some (.str kq u1)) (m2 : nsFind es "__doc__" = none) (m3 : nsFind es "__new__" = none) (m4 : nsFind es "__init_subclass__" = none) (m5 : nsFind es "__class_getitem__" = none)
   (m6 : nsFind es "__classcell__" = none) (m7 : nsFind es "__classdictcell__" = none) (m8 : nsFind es (S "obj") = none) (m9 : nsFind es "__eq__" = some v9) (m10 : nsFind es "__hash__" = some .none)
   (hval : ∀ n v, nsFind es n = some v → SNone h v)
   (hq : ∀ h' a ns md tk tk', (∀ b o, h.get? b = some o → h'.get? b = some o) → h'.get? a = some (kCls a ns B tn u1) → h'.Ns ns (mFin es md) → h'.get? md = some (mdObj tk' a) → Q (.done (.ret (.ref a))) ⟨h', #[], d, tk, os⟩) :
   wpAny (model Challenge.pw_sn0002_01 w) A (Builtin.«type.__new__» ⟨[.type "type", .str (S "K") tn, .ref B, .ref N], []⟩) Q E ⟨h, #[], d, t, os⟩ := by
  have f1 := f_ext; have f2 := f_turn; have f3 := f_best; have f4 := f_mh; have f5 := f_lin; have f6 := f_mb; have f7 := f_wk; have f8 := f_gd; have f9 := f_vs; have f10 := f_sn; have f11 := f_it; have f12 := f_ty; have f13 := f_sub
  have hTB : (⟨h, #[], d, t, os⟩ : Shared).TypeIs (.ref B) "tuple" := ⟨_, hB, rfl⟩
  have hTN : (⟨h, #[], d, t, os⟩ : Shared).TypeIs (.ref N) "dict" := ⟨_, hN, rfl⟩
  have s1 : isSubtype (.type "tuple") (.type "tuple") = pure true := by kernel_rfl
  have s2 : isSubtype (.type "dict") (.type "dict") = pure true := by kernel_rfl
  have a1 : asStr? (.str (S "K") tn) = pure (some (S "K")) := rfl
  have e1 : typeLookup (.type "dict") "__iter__" = pure (some (.builtin "dict.__iter__")) := by rw [typeLookup_type, builtinLookup_eq_fast]; kernel_rfl
  have b1 : (if ((some #[Value.type "object"]).getD #[]).toList.isEmpty = true then [Value.type "object"] else ((some #[Value.type "object"]).getD #[]).toList) = [Value.type "object"] := rfl
  have c1 : ((S "K").cps.any fun c => decide (55296 ≤ c) && decide (c ≤ 57343)) = false := by decide +kernel
  have c2 : (S "K").cps.contains 0 = false := by decide +kernel
  have c3 : ∀ a : Addr, List.filter (fun x => x != Value.ref a) [Value.ref a, Value.type "object"] = [Value.type "object"] := by simp
  have c4 : ((Manifest.find? "object").elim false fun ty => ty.attrs.any fun x => x.fst == "__del__") = false := by kernel_rfl
  have c5 : "object.__new__".endsWith ".__new__" = true := by decide +kernel
  have n1 : typeLookup (.type "object") "__new__" = pure (some (.builtin "object.__new__")) := by rw [typeLookup_type, builtinLookup_eq_fast]; kernel_rfl
  unfold Builtin.«type.__new__»
  repeat (first | ((with_reducible refine' r_anyM1 ?hl ?hx ?_); (case hl => simp); (case hx => kernel_rfl)) | ((with_reducible refine' r_not ?hl ?_); (case hl => rfl)) | ((with_reducible refine' r_lin ?hl ?_); (case hl => rfl)) | ((with_reducible refine' r_ext ?hl ?_); (case hl => rfl)) | ((with_reducible refine' r_readL ?hl hfind hno hS ?_); (case hl => rfl); intro h1 hk1) | ((with_reducible refine r_dict (by lia) ?_); intro h2 ns hk2 hns hns0) | ((with_reducible refine r_clsAlloc (h0 := fun b o => h.get? b = some o) rfl (fun b o e => ⟨hk2 _ _ (hk1 _ _ e), ne_of_get (hk1 _ _ e) hns0⟩) hns hk hu ?_); intro h3 a J) | (with_reducible refine r_nsGet0 hns hk (by assumption) ?_) | ((with_reducible refine' tj_nsGetR (by assumption) ?hr ?_); (case hr => ((repeat refine (if_neg (by decide +kernel)).trans ?_); first | exact if_pos rfl | assumption))) | ((with_reducible refine tj_set0 (by assumption) rfl ?_); intro _ J) | ((with_reducible refine tj_set2 (by assumption) rfl ?_); intro _ J) | ((with_reducible refine tj_set3 (by assumption) rfl ?_); intro _ J) | ((with_reducible refine tj_set4 (by assumption) rfl ?_); intro _ J) | ((with_reducible refine tj_set5 (by assumption) rfl ?_); intro _ J) | ((with_reducible refine tj_nsDel (by assumption) ?_); intro _ J) | ((with_reducible refine' tj_nsSetV L (by assumption) hl ?hL ?_); (case hL => (intro n9 hn9; dsimp only at hn9; (repeat' split at hn9); all_goals (first | exact absurd rfl hn9 | exact hL _ hn9 | (subst_vars; assumption)))); intro _ J) | ((with_reducible refine tj_nsSet (by assumption) ?_); intro _ J) | ((with_reducible refine' tj_updateCls (by assumption) ?u1 ?u2 ?_); (case u1 => (first | exact Nat.zero_le _ | simp)); (case u2 => (first | exact Nat.zero_le _ | simp)); intro _ J) | ((with_reducible refine' tj_slotAtR (by assumption) ?hr ?_); (case hr => rfl)) | ((with_reducible refine' r_installL ?hb ?hp hl ?hL ?ho (by assumption) ?hs ?_); (case hb => rfl); (case hp => rfl); (case hs => exact Nat.zero_le _); (case ho => (refine (if_neg (by decide +kernel)).trans ?_; exact m8)); (case hL => (intro n9 hn9; (try dsimp only at hn9); split at hn9; exact absurd rfl hn9; exact hL _ hn9)); intro _ md tk tk' J) | (with_reducible refine r_note ?_) | ((with_reducible refine tj_entries (by assumption) ?_); intro es9 hk9 hv9) | ((with_reducible refine' tj_typeLookup (by assumption) ?hm ?hx ?hr ?hy ?_); (case hm => rfl); (case hx => rfl); (case hy => assumption); (case hr => ((repeat refine (if_neg (by decide +kernel)).trans ?_); first | exact if_pos rfl | assumption))) | ((with_reducible refine' r_each ?hf ?_); (case hf => (intro e he Q' hq'; (obtain ⟨n9, t9, hn9⟩ := hk9 e he); (have hv := hv9 e he n9 t9 hn9); (first | (refine wpAny_bind (wpAny_of_eq (show asStr? e.key = pure (some n9) by rw [hn9]; rfl) ?_); exact wpAny_pure hq') | ((obtain ⟨T9, k1, k2, k3⟩ := sn_of J hval hv); rw [hn9, if_neg (by rw [k3]; exact Bool.false_ne_true)]; exact wpAny_bind (r_spec (k1 _ _ _ _) k2 (wpAny_pure hq'))))))) | ((with_reducible refine' wpAny_mono (r_super (B := B) (tn := tn) (u1 := u1) (ns := ns) (o2 := default) ?kx ?kc ?ku ?kd) ?_ ?k4); (case kx => exact fun b o e => (J.fz b o (.inl (KX b o e))).1); (case kc => (refine J.cls.trans ?_; dsimp only; rw [hdel]; rfl)); (case ku => lia); (case kd => lia); (case k4 => exact fun _ _ z => z.elim); rintro v8 s8 ⟨h8, x8, tk8, rfl, rfl, hk8, hx8, hn8⟩; have J8 := J.keeps hk8) | ((with_reducible refine' r_ga (B := B) (tn := tn) (u1 := u1) (ns := ns) ?kx ?kc ?kso ?ku ?kd ?_); (case kx => exact fun b o e => (J8.fz b o (.inl (KX b o e))).1); (case kc => (refine J8.cls.trans ?_; dsimp only; rw [hdel]; rfl)); (case kso => exact hx8); (case ku => lia); (case kd => lia); intro h10 x10 tk10 hk10 hx10; have J10 := J8.keeps hk10) | ((with_reducible refine' wpAny_mono (r_isub (B := B) (tn := tn) (u1 := u1) (ns := ns) ?kx ?kc hx10 ?ku ?kd) ?_ ?k4); (case kx => exact fun b o e => (J10.fz b o (.inl (KX b o e))).1); (case kc => (refine J10.cls.trans ?_; dsimp only; rw [hdel]; rfl)); (case ku => lia); (case kd => lia); (case k4 => exact fun _ _ z => z.elim); rintro v11 s11 ⟨h11, tk11, rfl, hk11⟩; have J11 := J10.keeps hk11) | (with_reducible_and_instances refine wpAny_tryCatch ?_) | wp_step | rw [hmod] | rw [hdel] | rw [c1] | rw [c2] | rw [b1] | rw [c3] | rw [c4] | rw [c5])
  refine hq _ a ns md _ tk' (fun b o e => (J11.fz b o (.inl e)).1) ?_ J11.nsn.ns (J11.fz md _ (.inr ⟨rfl, rfl⟩)).1
  refine J11.cls.trans ?_; dsimp only; rw [hdel]; rfl
end
end Mine
end

section
-- part M
namespace Mine
abbrev W := List Int

/-! ## the order of words -/
def llt : W → W → Bool
  | _, [] => false
  | [], _ :: _ => true
  | a :: u, b :: v => if a < b then true else if a = b then llt u v else false

theorem llt_irrefl : ∀ u : W, llt u u = false
  | [] => rfl
  | a :: u => by simp [llt, llt_irrefl u]
theorem llt_nil_left {v : W} (h : v ≠ []) : llt [] v = true := by
  cases v with
  | nil => exact absurd rfl h
  | cons => rfl
theorem llt_cons (a b : Int) (u v : W) : llt (a :: u) (b :: v) = true ↔ a < b ∨ (a = b ∧ llt u v = true) := by
  simp only [llt]
  by_cases h : a < b
  · simp [h]
  · by_cases e : a = b
    · simp [e]
    · simp [h, e]
theorem llt_trans : ∀ {u v w : W}, llt u v = true → llt v w = true → llt u w = true
  | _, _, [], _, h => by cases ‹W› <;> simp [llt] at h
  | _, [], _ :: _, h, _ => by simp [llt] at h
  | [], _ :: _, _ :: _, _, _ => rfl
  | a :: u, b :: v, c :: w, h1, h2 => by
    rw [llt_cons] at *
    rcases h1 with h1 | ⟨rfl, h1⟩
    · rcases h2 with h2 | ⟨rfl, h2⟩
      · exact .inl (by lia)
      · exact .inl h1
    · rcases h2 with h2 | ⟨rfl, h2⟩
      · exact .inl h2
      · exact .inr ⟨rfl, llt_trans h1 h2⟩
theorem llt_asymm {u v : W} (h : llt u v = true) : llt v u = false := by
  cases e : llt v u with
  | false => rfl
  | true => have := llt_trans h e; rw [llt_irrefl] at this; cases this
theorem llt_total : ∀ u v : W, llt u v = true ∨ u = v ∨ llt v u = true
  | [], [] => .inr (.inl rfl)
  | [], _ :: _ => .inl rfl
  | _ :: _, [] => .inr (.inr rfl)
  | a :: u, b :: v => by
    rw [llt_cons, llt_cons]
    rcases llt_total u v with h | rfl | h
    · by_cases e : a < b
      · exact .inl (.inl e)
      · by_cases e2 : a = b
        · exact .inl (.inr ⟨e2, h⟩)
        · exact .inr (.inr (.inl (by lia)))
    · by_cases e : a < b
      · exact .inl (.inl e)
      · by_cases e2 : a = b
        · exact .inr (.inl (by rw [e2]))
        · exact .inr (.inr (.inl (by lia)))
    · by_cases e : a < b
      · exact .inl (.inl e)
      · by_cases e2 : a = b
        · exact .inr (.inr (.inr ⟨e2.symm, h⟩))
        · exact .inr (.inr (.inl (by lia)))
theorem not_llt_iff {u v : W} : llt u v = false ↔ u = v ∨ llt v u = true := by
  constructor
  · intro h
    rcases llt_total u v with h1 | h1 | h1
    · rw [h] at h1; cases h1
    · exact .inl h1
    · exact .inr h1
  · rintro (rfl | h)
    · exact llt_irrefl _
    · exact llt_asymm h
theorem llt_of_le_of_lt {u v w : W} (h1 : llt v u = false) (h2 : llt v w = true) : llt u w = true := by
  rcases not_llt_iff.mp h1 with rfl | h
  · exact h2
  · exact llt_trans h h2
theorem llt_of_lt_of_le {u v w : W} (h1 : llt u v = true) (h2 : llt w v = false) : llt u w = true := by
  rcases not_llt_iff.mp h2 with rfl | h
  · exact h1
  · exact llt_trans h1 h
theorem llt_le_trans {u v w : W} (h1 : llt v u = false) (h2 : llt w v = false) : llt w u = false := by
  cases e : llt w u with
  | false => rfl
  | true =>
    have := llt_of_lt_of_le e h1
    rw [h2] at this; cases this
theorem llt_append_left : ∀ (p u v : W), llt (p ++ u) (p ++ v) = llt u v
  | [], _, _ => rfl
  | a :: p, u, v => by
    show llt (a :: (p ++ u)) (a :: (p ++ v)) = _
    simp [llt, llt_append_left p u v]
theorem llt_prefix (u : W) {v : W} (h : v ≠ []) : llt u (u ++ v) = true := by
  have := llt_append_left u [] v
  rw [List.append_nil] at this
  rw [this, llt_nil_left h]
/-- where the words part, what follows does not matter -/
theorem llt_append : ∀ {u v : W} (x y : W), llt u v = true → (¬ ∃ z, v = u ++ z) → llt (u ++ x) (v ++ y) = true
  | _, [], _, _, h, _ => by cases ‹W› <;> simp [llt] at h
  | [], b :: v, _, _, _, hp => absurd ⟨b :: v, rfl⟩ hp
  | a :: u, b :: v, x, y, h, hp => by
    show llt (a :: (u ++ x)) (b :: (v ++ y)) = true
    rw [llt_cons] at *
    rcases h with h | ⟨rfl, h⟩
    · exact .inl h
    · refine .inr ⟨rfl, llt_append x y h fun ⟨z, e⟩ => hp ⟨z, by rw [e]; rfl⟩⟩

/-! ## Lyndon words -/
def Ly (w : W) : Prop := w ≠ [] ∧ ∀ x y, w = x ++ y → x ≠ [] → y ≠ [] → llt w y = true
theorem ly_one (a : Int) : Ly [a] := by
  refine ⟨by simp, fun x y e hx hy => ?_⟩
  have : 1 = x.length + y.length := by have := congrArg List.length e; simpa using this
  have h1 := List.length_pos_iff.mpr hx
  have h2 := List.length_pos_iff.mpr hy
  lia
theorem ly_merge {u v : W} (hu : Ly u) (hv : Ly v) (h : llt u v = true) : Ly (u ++ v) := by
  have hlt : llt (u ++ v) v = true := by
    by_cases hp : ∃ z, v = u ++ z
    · obtain ⟨z, rfl⟩ := hp
      have hz : z ≠ [] := by rintro rfl; rw [List.append_nil, llt_irrefl] at h; cases h
      have := hv.2 u z rfl hu.1 hz
      rw [llt_append_left]; exact this
    · have := llt_append v [] h hp
      rw [List.append_nil] at this; exact this
  refine ⟨by simp [hu.1], fun x y e hx hy => ?_⟩
  rcases List.append_eq_append_iff.mp e with ⟨z, rfl, e2⟩ | ⟨z, rfl, rfl⟩
  · by_cases hz : z = []
    · subst hz; rw [List.nil_append] at e2; subst e2; exact hlt
    · exact llt_trans hlt (hv.2 z y e2 hz hy)
  · by_cases hz : z = []
    · subst hz; rw [List.nil_append]; exact hlt
    · have h1 := hu.2 x z rfl hx hz
      refine llt_append v v h1 ?_
      rintro ⟨q, e3⟩
      have := congrArg List.length e3
      simp only [List.length_append] at this
      have := List.length_pos_iff.mpr hx
      lia
end Mine
end

section
-- part M2
namespace Mine
/-! ## the two partings -/
def NI (ps : List W) : Prop := ps.Pairwise fun u v => llt u v = false
def AllLy (ps : List W) : Prop := ∀ p ∈ ps, Ly p

def norm : Nat → List W → List W
  | 0, ps => ps
  | f + 1, ps => if 1 < ps.length ∧ llt (ps.getD (ps.length - 2) []) (ps.getD (ps.length - 1) []) = true
      then norm f (ps.take (ps.length - 2) ++ [ps.getD (ps.length - 2) [] ++ ps.getD (ps.length - 1) []]) else ps
def join (ps : List W) (c : Int) : List W := norm (ps.length + 1) (ps ++ [[c]])
def facto (w : W) : List W := w.foldl join []

theorem norm_succ (f : Nat) (ps : List W) : norm (f + 1) ps = if 1 < ps.length ∧ llt (ps.getD (ps.length - 2) []) (ps.getD (ps.length - 1) []) = true
      then norm f (ps.take (ps.length - 2) ++ [ps.getD (ps.length - 2) [] ++ ps.getD (ps.length - 1) []]) else ps := rfl
theorem norm_two (f : Nat) (qs : List W) (u v : W) : norm (f + 1) (qs ++ [u, v]) = if llt u v = true then norm f (qs ++ [u ++ v]) else qs ++ [u, v] := by
  have h1 : (qs ++ [u, v]).length = qs.length + 2 := by simp
  have h2 : (qs ++ [u, v]).getD qs.length [] = u := by simp [List.getD_eq_getElem?_getD]
  have h3 : (qs ++ [u, v]).getD (qs.length + 1) [] = v := by simp [List.getD_eq_getElem?_getD]
  have h4 : (qs ++ [u, v]).take qs.length = qs := by simp
  rw [norm_succ, h1]
  simp only [Nat.add_sub_cancel, show qs.length + 2 - 1 = qs.length + 1 from rfl, h2, h3, h4]
  by_cases h : llt u v = true
  · rw [if_pos ⟨by lia, h⟩, if_pos h]
  · rw [if_neg (fun x => h x.2), if_neg h]
theorem norm_one (f : Nat) (u : W) : norm f [u] = [u] := by cases f <;> simp [norm]

theorem ni_snoc {qs : List W} {u v : W} (h : NI (qs ++ [u])) (huv : llt u v = false) : NI (qs ++ [u, v]) := by
  unfold NI at *
  have e : qs ++ [u, v] = (qs ++ [u]) ++ [v] := by simp
  rw [e, List.pairwise_append]
  refine ⟨h, by simp, fun p hp x hx => ?_⟩
  rw [List.mem_singleton] at hx; subst hx
  rcases List.mem_append.mp hp with hp | hp
  · have := (List.pairwise_append.mp h).2.2 p hp u (.head _)
    exact llt_le_trans huv this
  · rw [List.mem_singleton] at hp; subst hp; exact huv

theorem norm_spec : ∀ (n : Nat) (f : Nat) (qs : List W) (u : W), qs.length = n → n ≤ f → NI qs → AllLy qs → Ly u →
    NI (norm f (qs ++ [u])) ∧ AllLy (norm f (qs ++ [u])) ∧ (norm f (qs ++ [u])).flatten = qs.flatten ++ u
  | 0, f, qs, u, hn, _, _, _, hu => by
    have : qs = [] := List.eq_nil_of_length_eq_zero hn
    subst this
    rw [List.nil_append, norm_one]
    exact ⟨List.pairwise_singleton _ _, fun p hp => by rw [List.mem_singleton] at hp; subst hp; exact hu, by simp⟩
  | n + 1, f, qs, u, hn, hf, hq, hl, hu => by
    obtain ⟨f, rfl⟩ : ∃ k, f = k + 1 := ⟨f - 1, by lia⟩
    have hne : qs ≠ [] := by rintro rfl; simp at hn
    obtain ⟨rs, v, rfl⟩ : ∃ rs v, qs = rs ++ [v] := ⟨qs.dropLast, qs.getLast hne, (List.dropLast_concat_getLast hne).symm⟩
    have e : rs ++ [v] ++ [u] = rs ++ [v, u] := by simp
    rw [e, norm_two]
    have hv : Ly v := hl v (by simp)
    have hrs : NI rs := (List.pairwise_append.mp hq).1
    have hlr : AllLy rs := fun p hp => hl p (List.mem_append_left _ hp)
    by_cases h : llt v u = true
    · rw [if_pos h]
      have := norm_spec n f rs (v ++ u) (by simpa using hn) (by lia) hrs hlr (ly_merge hv hu h)
      refine ⟨this.1, this.2.1, this.2.2.trans ?_⟩
      simp [List.flatten_append]
    · rw [if_neg h]
      refine ⟨ni_snoc hq (by simpa using h), fun p hp => ?_, by simp [List.flatten_append]⟩
      rcases List.mem_append.mp hp with hp | hp
      · exact hlr p hp
      · simp only [List.mem_cons, List.not_mem_nil, or_false] at hp
        rcases hp with rfl | rfl
        · exact hv
        · exact hu

theorem facto_spec_aux : ∀ (w : W) (ps : List W), NI ps → AllLy ps → NI (w.foldl join ps) ∧ AllLy (w.foldl join ps) ∧ (w.foldl join ps).flatten = ps.flatten ++ w
  | [], ps, h1, h2 => ⟨h1, h2, by simp⟩
  | c :: w, ps, h1, h2 => by
    have := norm_spec ps.length (ps.length + 1) ps [c] rfl (by lia) h1 h2 (ly_one c)
    have ih := facto_spec_aux w (join ps c) this.1 this.2.1
    refine ⟨ih.1, ih.2.1, ih.2.2.trans ?_⟩
    rw [show (join ps c).flatten = ps.flatten ++ [c] from this.2.2]
    simp
theorem facto_spec (w : W) : NI (facto w) ∧ AllLy (facto w) ∧ (facto w).flatten = w := by
  have := facto_spec_aux w [] List.Pairwise.nil (fun _ h => nomatch h)
  exact ⟨this.1, this.2.1, this.2.2⟩

/-! cutting off the least of all ends -/
def leastStep (w : W) (l p : Nat) : Nat := if llt (w.drop p) (w.drop l) = true then p else l
def leastOf (w : W) : Nat := (List.range (w.length - 1)).foldl (leastStep w) (w.length - 1)
def cutF : Nat → W → List W → List W
  | 0, _, ps => ps
  | f + 1, w, ps => if w = [] then ps else cutF f (w.take (leastOf w)) (w.drop (leastOf w) :: ps)
def cut (w : W) : List W := cutF w.length w []

theorem least_aux (w : W) (hw : w ≠ []) : ∀ k, k ≤ w.length - 1 →
    let l := (List.range k).foldl (leastStep w) (w.length - 1)
    (l < k ∨ l = w.length - 1) ∧ (∀ i, i < k → llt (w.drop i) (w.drop l) = false) ∧ llt (w.drop (w.length - 1)) (w.drop l) = false
  | 0, _ => ⟨.inr rfl, fun i hi => absurd hi (Nat.not_lt_zero _), llt_irrefl _⟩
  | k + 1, hk => by
    have ih := least_aux w hw k (by lia)
    rw [List.range_succ, List.foldl_append]
    simp only [List.foldl_cons, List.foldl_nil]
    generalize (List.range k).foldl (leastStep w) (w.length - 1) = l at ih ⊢
    obtain ⟨h1, h2, h3⟩ := ih
    unfold leastStep
    by_cases h : llt (w.drop k) (w.drop l) = true
    · rw [if_pos h]
      refine ⟨.inl (by lia), fun i hi => ?_, llt_le_trans (llt_asymm h) h3⟩
      by_cases hik : i = k
      · subst hik; exact llt_irrefl _
      · exact llt_le_trans (llt_asymm h) (h2 i (by lia))
    · rw [if_neg h]
      refine ⟨by lia, fun i hi => ?_, h3⟩
      by_cases hik : i = k
      · subst hik; simpa using h
      · exact h2 i (by lia)
theorem least_spec (w : W) (hw : w ≠ []) : leastOf w < w.length ∧ ∀ i, i < w.length → llt (w.drop i) (w.drop (leastOf w)) = false := by
  have hl := List.length_pos_iff.mpr hw
  have := least_aux w hw (w.length - 1) (Nat.le_refl _)
  refine ⟨by unfold leastOf; lia, fun i hi => ?_⟩
  by_cases h : i = w.length - 1
  · subst h; exact this.2.2
  · exact this.2.1 i (by lia)
theorem least_unique (w : W) (hw : w ≠ []) (j : Nat) (hj : j < w.length) (h : ∀ i, i < w.length → i ≠ j → llt (w.drop j) (w.drop i) = true) : leastOf w = j := by
  obtain ⟨h1, h2⟩ := least_spec w hw
  apply Classical.byContradiction
  intro hne
  have := h _ h1 hne
  rw [h2 j hj] at this
  cases this

theorem drop_flatten : ∀ (qs : List W) (i : Nat), i < qs.flatten.length → ∃ a q b x y, qs = a ++ q :: b ∧ q = x ++ y ∧ y ≠ [] ∧ qs.flatten.drop i = y ++ b.flatten
  | [], i, h => by simp at h
  | q :: qs, i, h => by
    rw [List.flatten_cons]
    by_cases hi : i < q.length
    · refine ⟨[], q, qs, q.take i, q.drop i, rfl, (List.take_append_drop i q).symm, ?_, ?_⟩
      · intro e
        have := congrArg List.length e
        simp at this; lia
      · rw [List.drop_append_of_le_length (by lia)]
    · obtain ⟨a, q', b, x, y, e1, e2, e3, e4⟩ := drop_flatten qs (i - q.length) (by rw [List.flatten_cons, List.length_append] at h; lia)
      refine ⟨q :: a, q', b, x, y, by rw [e1]; rfl, e2, e3, ?_⟩
      rw [← e4, List.drop_append, List.drop_of_length_le (by lia), List.nil_append]

theorem least_flatten (qs : List W) (u : W) (h : NI (qs ++ [u])) (hl : AllLy (qs ++ [u])) : leastOf (qs.flatten ++ u) = qs.flatten.length := by
  have hu : Ly u := hl u (by simp)
  have hpos := List.length_pos_iff.mpr hu.1
  have hne : qs.flatten ++ u ≠ [] := by simp [hu.1]
  apply least_unique _ hne
  · simp; lia
  · intro i hi hij
    rw [List.drop_left]
    by_cases hlt : i < qs.flatten.length
    · obtain ⟨a, q, b, x, y, e1, e2, e3, e4⟩ := drop_flatten qs i hlt
      rw [List.drop_append_of_le_length (by lia), e4]
      have hq : Ly q := hl q (by rw [e1]; simp)
      have hqu : llt q u = false := (List.pairwise_append.mp h).2.2 q (by rw [e1]; simp) u (.head _)
      have h1 : llt y q = false := by
        by_cases hx : x = []
        · subst hx; rw [List.nil_append] at e2; rw [e2]; exact llt_irrefl _
        · exact llt_asymm (hq.2 x y e2 hx e3)
      have h2 : llt y u = false := llt_le_trans hqu h1
      have h3 : llt y (y ++ b.flatten ++ u) = true := by
        rw [List.append_assoc]
        exact llt_prefix y (by simp [hu.1])
      exact llt_of_le_of_lt h2 h3
    · have e : (qs.flatten ++ u).drop i = u.drop (i - qs.flatten.length) := by
        rw [List.drop_append, List.drop_of_length_le (by lia), List.nil_append]
      rw [e]
      simp only [List.length_append] at hi
      refine hu.2 (u.take (i - qs.flatten.length)) _ (List.take_append_drop _ u).symm ?_ ?_
      · intro e; have := congrArg List.length e; rw [List.length_take, List.length_nil] at this; lia
      · intro e; have := congrArg List.length e; rw [List.length_drop, List.length_nil] at this; lia

theorem cutF_flatten : ∀ (n : Nat) (qs : List W) (f : Nat) (ps : List W), qs.length = n → n ≤ f → NI qs → AllLy qs → cutF f qs.flatten ps = qs ++ ps
  | 0, qs, f, ps, hn, _, _, _ => by
    have : qs = [] := List.eq_nil_of_length_eq_zero hn
    subst this
    cases f <;> simp [cutF]
  | n + 1, qs, f, ps, hn, hf, h, hl => by
    obtain ⟨f, rfl⟩ : ∃ k, f = k + 1 := ⟨f - 1, by lia⟩
    have hne : qs ≠ [] := by rintro rfl; simp at hn
    obtain ⟨rs, v, rfl⟩ : ∃ rs v, qs = rs ++ [v] := ⟨qs.dropLast, qs.getLast hne, (List.dropLast_concat_getLast hne).symm⟩
    have hv : Ly v := hl v (by simp)
    have e : (rs ++ [v]).flatten = rs.flatten ++ v := by simp [List.flatten_append]
    have hnil : rs.flatten ++ v ≠ [] := by simp [hv.1]
    rw [e]
    unfold cutF
    rw [if_neg hnil, least_flatten rs v h hl, List.drop_left, List.take_left]
    rw [cutF_flatten n rs f (v :: ps) (by simpa using hn) (by lia) (List.pairwise_append.mp h).1 (fun p hp => hl p (List.mem_append_left _ hp))]
    simp
theorem length_le_flatten : ∀ (qs : List W), AllLy qs → qs.length ≤ qs.flatten.length
  | [], _ => Nat.le_refl _
  | q :: qs, h => by
    have := length_le_flatten qs fun p hp => h p (.tail _ hp)
    have := List.length_pos_iff.mpr (h q (.head _)).1
    simp only [List.length_cons, List.flatten_cons, List.length_append]; lia
theorem cut_flatten (qs : List W) (h : NI qs) (hl : AllLy qs) : cut qs.flatten = qs := by
  have := cutF_flatten qs.length qs qs.flatten.length [] rfl (length_le_flatten qs hl) h hl
  rw [List.append_nil] at this; exact this
theorem facto_eq_cut (w : W) : facto w = cut w := by
  obtain ⟨h1, h2, h3⟩ := facto_spec w
  have := cut_flatten _ h1 h2
  rw [h3] at this; exact this.symm
theorem facto_flatten (qs : List W) (h : NI qs) (hl : AllLy qs) : facto qs.flatten = qs := by rw [facto_eq_cut, cut_flatten qs h hl]
end Mine
end

section
-- part M3
namespace Mine
/-! ## the stable sort -/
def ins (lt : Nat → Nat → Bool) (x : Nat) : List Nat → List Nat
  | [] => [x]
  | y :: l => if lt x y = true then x :: y :: l else y :: ins lt x l
def srt (lt : Nat → Nat → Bool) (n : Nat) : List Nat := (List.range n).foldl (fun acc x => ins lt x acc) []
def Rel (lt : Nat → Nat → Bool) (i j : Nat) : Prop := lt i j = true ∨ (lt j i = false ∧ i < j)
def SS (lt : Nat → Nat → Bool) (n : Nat) (p : List Nat) : Prop := p.Perm (List.range n) ∧ p.Pairwise (Rel lt)
structure SW (lt : Nat → Nat → Bool) : Prop where
  asymm : ∀ i j, lt i j = true → lt j i = false
  ntrans : ∀ i j k, lt i j = false → lt j k = false → lt i k = false
theorem ins_perm (lt : Nat → Nat → Bool) (x : Nat) : ∀ l : List Nat, (ins lt x l).Perm (x :: l)
  | [] => List.Perm.refl _
  | y :: l => by
    unfold ins
    split
    · exact List.Perm.refl _
    · exact ((ins_perm lt x l).cons y).trans (List.Perm.swap x y l)
theorem ins_sorted {lt : Nat → Nat → Bool} (h : SW lt) (x : Nat) : ∀ l : List Nat, l.Pairwise (Rel lt) → (∀ y ∈ l, y < x) → (ins lt x l).Pairwise (Rel lt)
  | [], _, _ => List.pairwise_singleton _ _
  | y :: l, hp, hx => by
    obtain ⟨h1, h2⟩ := List.pairwise_cons.mp hp
    unfold ins
    split
    · rename_i hxy
      refine List.pairwise_cons.mpr ⟨fun z hz => ?_, hp⟩
      rcases List.mem_cons.mp hz with rfl | hz
      · exact .inl hxy
      · left
        have hzy : lt z y = false := by
          rcases h1 z hz with q | q
          · exact h.asymm _ _ q
          · exact q.1
        cases e : lt x z with
        | true => rfl
        | false => have := h.ntrans _ _ _ e hzy; rw [hxy] at this; cases this
    · rename_i hxy
      refine List.pairwise_cons.mpr ⟨fun z hz => ?_, ins_sorted h x l h2 fun z hz => hx z (.tail _ hz)⟩
      rcases List.mem_cons.mp ((ins_perm lt x l).mem_iff.mp hz) with rfl | hz
      · exact .inr ⟨by simpa using hxy, hx y (.head _)⟩
      · exact h1 z hz
theorem srt_SS {lt : Nat → Nat → Bool} (h : SW lt) : ∀ n, SS lt n (srt lt n)
  | 0 => ⟨List.Perm.refl _, List.Pairwise.nil⟩
  | n + 1 => by
    obtain ⟨h1, h2⟩ := srt_SS h n
    unfold srt
    rw [List.range_succ, List.foldl_append]
    show SS lt (n + 1) (ins lt n (srt lt n))
    refine ⟨(ins_perm lt n _).trans ?_, ins_sorted h n _ h2 fun y hy => List.mem_range.mp (h1.mem_iff.mp hy)⟩
    rw [List.range_succ]
    exact (h1.cons n).trans (List.perm_append_comm (l₁ := [n]))
theorem rel_asymm {lt : Nat → Nat → Bool} (h : SW lt) {i j : Nat} (a : Rel lt i j) (b : Rel lt j i) : False := by
  rcases a with a | ⟨a, a'⟩
  · rcases b with b | ⟨b, _⟩
    · rw [h.asymm _ _ a] at b; cases b
    · rw [a] at b; cases b
  · rcases b with b | ⟨b, b'⟩
    · rw [a] at b; cases b
    · lia
theorem perm_unique {α : Type} {R : α → α → Prop} : ∀ {l₁ l₂ : List α}, (∀ a ∈ l₁, ∀ b ∈ l₁, R a b → R b a → a = b) → l₁.Pairwise R → l₂.Pairwise R → l₁.Perm l₂ → l₁ = l₂
  | [], l₂, _, _, _, hp => (List.Perm.nil_eq hp)
  | a :: l, [], _, _, _, hp => by have := hp.length_eq; simp at this
  | a :: l, b :: m, hR, h1, h2, hp => by
    have hab : a = b := by
      apply Classical.byContradiction
      intro hne
      have ha : a ∈ m := by
        rcases List.mem_cons.mp (hp.mem_iff.mp (List.mem_cons_self ..)) with e | e
        · exact absurd e hne
        · exact e
      have hb : b ∈ l := by
        rcases List.mem_cons.mp (hp.mem_iff.mpr (List.mem_cons_self ..)) with e | e
        · exact absurd e.symm hne
        · exact e
      exact hne (hR a (.head _) b (.tail _ hb) ((List.pairwise_cons.mp h1).1 b hb) ((List.pairwise_cons.mp h2).1 a ha))
    subst hab
    rw [perm_unique (fun x hx y hy => hR x (.tail _ hx) y (.tail _ hy)) (List.pairwise_cons.mp h1).2 (List.pairwise_cons.mp h2).2 (List.perm_cons a |>.mp hp)]
theorem SS_unique {lt : Nat → Nat → Bool} (h : SW lt) {n : Nat} {p q : List Nat} (hp : SS lt n p) (hq : SS lt n q) : p = q :=
  perm_unique (fun a _ b _ x y => (rel_asymm h x y).elim) hp.2 hq.2 (hp.1.trans hq.1.symm)
theorem SW_key (k : Nat → W) : SW fun i j => llt (k i) (k j) :=
  ⟨fun _ _ h => llt_asymm h, fun _ _ _ h1 h2 => llt_le_trans h2 h1⟩
theorem SW_int (k : Nat → Int) : SW fun i j => decide (k i < k j) :=
  ⟨fun i j h => by simp at h ⊢; lia, fun i j l h1 h2 => by simp at h1 h2 ⊢; lia⟩
end Mine
end

section
-- part M4
namespace Mine
/-! ## endless words -/
def om (u : W) (i : Nat) : Int := u.getD (i % u.length) 0
def pre (n : Nat) (u : W) : W := (List.range n).map (om u)
theorem pre_length (n : Nat) (u : W) : (pre n u).length = n := by simp [pre]
theorem pre_get (n : Nat) (u : W) (i : Nat) (hi : i < (pre n u).length) : (pre n u)[i] = om u i := by simp [pre]
theorem om_lt {u : W} {i : Nat} (h : i < u.length) : om u i = u[i] := by
  unfold om; rw [Nat.mod_eq_of_lt h, List.getD_eq_getElem?_getD, List.getElem?_eq_getElem h]; rfl
theorem om_sub {u : W} {i : Nat} (h : u.length ≤ i) : om u i = om u (i - u.length) := by
  unfold om
  congr 1
  conv => lhs; rw [show i = (i - u.length) + u.length by lia]
  rw [Nat.add_mod_right]
/-- a first difference decides -/
theorem llt_first : ∀ (k : Nat) (a b : W) (ha : k < a.length) (hb : k < b.length), (∀ i (hi : i < k), a[i]'(by lia) = b[i]'(by lia)) → a[k] ≠ b[k] → llt a b = decide (a[k] < b[k])
  | 0, x :: a, y :: b, _, _, _, hne => by
    simp only [List.getElem_cons_zero] at hne ⊢
    rw [Bool.eq_iff_iff, llt_cons, decide_eq_true_eq]
    constructor
    · rintro (h | ⟨h, _⟩)
      · exact h
      · exact absurd h hne
    · exact .inl
  | k + 1, x :: a, y :: b, ha, hb, h, hne => by
    have h0 := h 0 (by lia)
    simp only [List.getElem_cons_zero] at h0
    simp only [List.getElem_cons_succ] at hne ⊢
    have ih := llt_first k a b (by simpa using ha) (by simpa using hb) (fun i hi => by simpa using h (i + 1) (by lia)) hne
    rw [← ih, Bool.eq_iff_iff, llt_cons]
    constructor
    · rintro (h | ⟨_, h⟩)
      · lia
      · exact h
    · exact fun h => .inr ⟨h0, h⟩
  | _, [], _, ha, _, _, _ => by simp at ha
  | _, _ :: _, [], _, hb, _, _ => by simp at hb
section
variable {u v : W}
theorem cat_om (hu : u ≠ []) {k i : Nat} (h : ∀ i, i < k → om u i = om v i) (hi : i ≤ k) (hk : i < (u ++ v).length) : (u ++ v)[i] = om u i := by
  have hl : 0 < u.length := by cases u with | nil => exact absurd rfl hu | cons => simp
  by_cases hlt : i < u.length
  · rw [List.getElem_append_left hlt, om_lt hlt]
  · rw [List.length_append] at hk
    rw [List.getElem_append_right (by lia), ← om_lt (by lia), om_sub (u := u) (i := i) (by lia), h _ (by lia)]
/-- the first place where the endless words part -/
theorem part_or_same (u v : W) (n : Nat) : (∀ i, i < n → om u i = om v i) ∨ ∃ k, k < n ∧ (∀ i, i < k → om u i = om v i) ∧ om u k ≠ om v k := by
  induction n with
  | zero => exact .inl fun i hi => absurd hi (Nat.not_lt_zero _)
  | succ n ih =>
    rcases ih with h | ⟨k, hk, h1, h2⟩
    · by_cases e : om u n = om v n
      · exact .inl fun i hi => by
          by_cases hin : i < n
          · exact h i hin
          · have : i = n := by lia
            subst this; exact e
      · exact .inr ⟨n, by lia, h, e⟩
    · exact .inr ⟨k, by lia, h1, h2⟩
theorem om_all (hu : u ≠ []) (hv : v ≠ []) (h : ∀ i, i < u.length + v.length → om u i = om v i) : ∀ i, om u i = om v i := fun i => by
  have hl : 0 < u.length := by cases u with | nil => exact absurd rfl hu | cons => simp
  have hl' : 0 < v.length := by cases v with | nil => exact absurd rfl hv | cons => simp
  induction i using Nat.strongRecOn with
  | _ i ih =>
    by_cases hi : i < u.length + v.length
    · exact h i hi
    · rw [om_sub (u := u) (by lia), ih _ (by lia), om_sub (u := v) (i := i - u.length) (by lia), ← ih _ (by lia),
        show i - u.length - v.length = i - v.length - u.length by lia, ← om_sub (u := u) (i := i - v.length) (by lia), ih _ (by lia), ← om_sub (u := v) (by lia)]
theorem cat_same (hu : u ≠ []) (hv : v ≠ []) (h : ∀ i, i < u.length + v.length → om u i = om v i) : u ++ v = v ++ u := by
  refine List.ext_getElem (by simp; lia) fun i h1 h2 => ?_
  have h1' : i < u.length + v.length := by simpa using h1
  rw [cat_om hu h (by lia) h1, cat_om hv (fun i hi => (h i hi).symm) (by lia) h2, h i h1']
theorem cat_part (hu : u ≠ []) (hv : v ≠ []) {k : Nat} (hk : k < u.length + v.length) (h1 : ∀ i, i < k → om u i = om v i) (h2 : om u k ≠ om v k) : u ++ v ≠ v ++ u ∧ llt (u ++ v) (v ++ u) = decide (om u k < om v k) := by
  have a1 : k < (u ++ v).length := by simpa using hk
  have a2 : k < (v ++ u).length := by simp; lia
  have e1 := cat_om hu h1 (Nat.le_refl k) a1
  have e2 := cat_om hv (fun i hi => (h1 i hi).symm) (Nat.le_refl k) a2
  constructor
  · intro e
    apply h2
    rw [← e1, ← e2]
    simp only [e]
  · rw [llt_first k _ _ a1 a2 (fun i hi => by rw [cat_om hu h1 (by lia) (by lia), cat_om hv (fun i hi => (h1 i hi).symm) (by lia) (by lia), h1 i hi]) (by rw [e1, e2]; exact h2), e1, e2]
/-- the comparison of uv with vu is that of the endless words -/
theorem endless_lt (hu : u ≠ []) (hv : v ≠ []) {m : Nat} (hm : u.length + v.length ≤ m) :
    decide ((if u ++ v = v ++ u then 0 else if llt (u ++ v) (v ++ u) then -1 else 1 : Int) < 0) = llt (pre m u) (pre m v) := by
  rcases part_or_same u v (u.length + v.length) with h | ⟨k, hk, h1, h2⟩
  · rw [if_pos (cat_same hu hv h)]
    have : pre m u = pre m v := by unfold pre; exact List.map_congr_left fun i _ => om_all hu hv h i
    rw [this, llt_irrefl]; rfl
  · obtain ⟨a, b⟩ := cat_part hu hv hk h1 h2
    have c : llt (pre m u) (pre m v) = decide (om u k < om v k) := by
      rw [llt_first k _ _ (by rw [pre_length]; lia) (by rw [pre_length]; lia) (fun i hi => by rw [pre_get, pre_get, h1 i hi]) (by rw [pre_get, pre_get]; exact h2), pre_get, pre_get]
    rw [if_neg a, b, c]
    by_cases q : om u k < om v k <;> simp [q]
end
end Mine
end

section
-- part M5
namespace Mine
/-! ## Lyndon words and turning -/
theorem llt_append_right_iff : ∀ {a b : W} (c : W), a.length = b.length → (llt (a ++ c) (b ++ c) = true ↔ llt a b = true)
  | [], [], c, _ => by simp [llt_irrefl]
  | x :: a, y :: b, c, h => by
    rw [List.cons_append, List.cons_append, llt_cons, llt_cons, llt_append_right_iff c (by simpa using h)]
theorem ly_rot {w x y : W} (h : Ly w) (e : w = x ++ y) (hx : x ≠ []) (hy : y ≠ []) : llt w (y ++ x) = true := by
  have h1 := h.2 x y e hx hy
  have := llt_append [] x h1 (fun ⟨z, hz⟩ => by
    have hl : y.length = (w ++ z).length := by rw [← hz]
    rw [List.length_append, e, List.length_append] at hl
    have : 0 < x.length := by cases x with | nil => exact absurd rfl hx | cons => simp
    lia)
  simpa using this
/-- a word that is less than each of its turnings is Lyndon -/
theorem ly_of_rot {w : W} (h0 : w ≠ []) (h : ∀ x y, w = x ++ y → x ≠ [] → y ≠ [] → llt w (y ++ x) = true) : Ly w := by
  refine ⟨h0, fun x y e hx hy => ?_⟩
  have h1 := h x y e hx hy
  rcases llt_total w y with hlt | heq | hgt
  · exact hlt
  · have : w.length = (x ++ y).length := by rw [← e]
    rw [heq, List.length_append] at this
    have : 0 < x.length := by cases x with | nil => exact absurd rfl hx | cons => simp
    lia
  · -- y < w: then y is a prefix of w
    by_cases hp : ∃ z, w = y ++ z
    · obtain ⟨z, hz⟩ := hp
      have hlen : x.length = z.length := by
        have : (x ++ y).length = (y ++ z).length := by rw [← e, ← hz]
        simp at this; lia
      have hzx : llt z x = true := by
        rw [hz] at h1
        rwa [llt_append_left] at h1
      have hzn : z ≠ [] := fun q => by rw [q] at hlen; cases x with | nil => exact hx rfl | cons => simp at hlen
      have h2 := h y z hz hy hzn
      rw [e, llt_append_right_iff y hlen] at h2
      rw [llt_asymm h2] at hzx
      cases hzx
    · have := llt_append x [] hgt hp
      rw [List.append_nil] at this
      rw [llt_asymm h1] at this
      cases this
theorem ly_comm {u v : W} (hu : Ly u) (hv : Ly v) (h : llt v u = true) : llt (v ++ u) (u ++ v) = true := ly_rot (ly_merge hv hu h) rfl hv.1 hu.1
theorem ly_le {u v : W} (hu : Ly u) (hv : Ly v) (h : llt (v ++ u) (u ++ v) = false) : llt v u = false := by
  cases q : llt v u with
  | false => rfl
  | true => rw [ly_comm hu hv q] at h; cases h
end Mine
end

section
-- part M6
namespace Mine
/-! ## rings of places -/
def itr (f : Nat → Nat) : Nat → Nat → Nat
  | 0, p => p
  | k + 1, p => itr f k (f p)
theorem itr_succ (f : Nat → Nat) : ∀ k p, itr f (k + 1) p = f (itr f k p)
  | 0, _ => rfl
  | k + 1, p => by show itr f (k + 1) (f p) = _; rw [itr_succ f k (f p)]; rfl
theorem itr_add (f : Nat → Nat) : ∀ a b p, itr f (a + b) p = itr f a (itr f b p)
  | 0, b, p => by rw [Nat.zero_add]; rfl
  | a + 1, b, p => by rw [show a + 1 + b = (a + b) + 1 by lia, itr_succ, itr_add f a b p]; exact (itr_succ f a _).symm
def lt' (e : W) (f : Nat → Nat) (p i : Nat) : Int := e.getD (itr f (i + 1) p) 0
theorem lt'_shift (e : W) (f : Nat → Nat) (p t i : Nat) : lt' e f (itr f t p) i = lt' e f p (t + i) := by
  unfold lt'; rw [← itr_add]; congr 2; lia
/-- the places of a word in the order of their letters -/
structure Ord (e : W) (f : Nat → Nat) : Prop where
  lt : ∀ p, p < e.length → f p < e.length
  inj : ∀ p q, p < e.length → q < e.length → f p = f q → p = q
  mono : ∀ p q, p < q → q < e.length → e.getD (f p) 0 < e.getD (f q) 0 ∨ (e.getD (f p) 0 = e.getD (f q) 0 ∧ f p < f q)
section
variable {e : W} {f : Nat → Nat}
theorem Ord.itr (O : Ord e f) : ∀ k p, p < e.length → itr f k p < e.length
  | 0, _, h => h
  | k + 1, p, h => O.itr k (f p) (O.lt p h)
theorem Ord.agree (O : Ord e f) {p q : Nat} (hpq : p < q) (hq : q < e.length) : ∀ k, (∀ i, i < k → lt' e f p i = lt' e f q i) → Mine.itr f k p < Mine.itr f k q ∧ lt' e f p k ≤ lt' e f q k
  | 0, _ => ⟨hpq, by
      rcases O.mono p q hpq hq with h | h
      · exact Int.le_of_lt h
      · exact Int.le_of_eq h.1⟩
  | k + 1, h => by
    obtain ⟨h1, h2⟩ := O.agree hpq hq k fun i hi => h i (by lia)
    have hk := h k (by lia)
    have h3 : Mine.itr f (k + 1) p < Mine.itr f (k + 1) q := by
      rw [itr_succ, itr_succ]
      unfold lt' at hk
      rw [itr_succ, itr_succ] at hk
      rcases O.mono _ _ h1 (O.itr k q hq) with h4 | h4
      · lia
      · exact h4.2
    refine ⟨h3, ?_⟩
    unfold lt'
    rw [itr_succ f (k + 1), itr_succ f (k + 1)]
    rcases O.mono _ _ h3 (O.itr (k + 1) q hq) with h4 | h4
    · exact Int.le_of_lt h4
    · exact Int.le_of_eq h4.1
end
theorem part_fun (a b : Nat → Int) (n : Nat) : (∀ i, i < n → a i = b i) ∨ ∃ k, k < n ∧ (∀ i, i < k → a i = b i) ∧ a k ≠ b k := by
  induction n with
  | zero => exact .inl fun i hi => absurd hi (Nat.not_lt_zero _)
  | succ n ih =>
    rcases ih with h | ⟨k, hk, h1, h2⟩
    · by_cases e : a n = b n
      · exact .inl fun i hi => by
          by_cases hin : i < n
          · exact h i hin
          · have : i = n := by lia
            subst this; exact e
      · exact .inr ⟨n, by lia, h, e⟩
    · exact .inr ⟨k, by lia, h1, h2⟩
theorem llt_range {a b : Nat → Int} {n k : Nat} (hk : k < n) (h1 : ∀ i, i < k → a i = b i) (h2 : a k ≠ b k) : llt ((List.range n).map a) ((List.range n).map b) = decide (a k < b k) := by
  rw [llt_first k _ _ (by simpa using hk) (by simpa using hk) (fun i hi => by simpa using h1 i hi) (by simpa using h2)]
  simp
section
variable {e : W} {f : Nat → Nat}
/-- later places have no less endless words -/
theorem Ord.le (O : Ord e f) {p q : Nat} (hpq : p < q) (hq : q < e.length) (n : Nat) : llt ((List.range n).map (lt' e f q)) ((List.range n).map (lt' e f p)) = false := by
  rcases part_fun (lt' e f q) (lt' e f p) n with h | ⟨k, hk, h1, h2⟩
  · rw [List.map_congr_left fun i hi => h i (by simpa using hi), llt_irrefl]
  · rw [llt_range hk h1 h2]
    have := (O.agree hpq hq k fun i hi => (h1 i hi).symm).2
    simp; lia
theorem itr_mul (f : Nat → Nat) (t s : Nat) : ∀ c, itr f c s = s → itr f (t * c) s = s := by
  intro c hc
  induction t with
  | zero => rw [Nat.zero_mul]; rfl
  | succ t ih => rw [Nat.succ_mul, itr_add, hc, ih]
theorem lt'_period (e : W) {f : Nat → Nat} {s c : Nat} (hc : itr f c s = s) (k : Nat) : lt' e f s (k + c) = lt' e f s k := by
  unfold lt'
  rw [show k + c + 1 = (k + 1) + c by lia, itr_add, hc]
theorem lt'_mod (e : W) {f : Nat → Nat} {s c : Nat} (hc : itr f c s = s) (hc0 : 0 < c) (k : Nat) : lt' e f s k = lt' e f s (k % c) := by
  induction k using Nat.strongRecOn with
  | _ k ih =>
    by_cases h : k < c
    · rw [Nat.mod_eq_of_lt h]
    · rw [show k = (k - c) + c by lia, lt'_period e hc, ih (k - c) (by lia), Nat.add_mod_right]
/-- the letters of a ring, read from its least place on, are a Lyndon word -/
theorem ring_ly (O : Ord e f) {s c : Nat} (hs : s < e.length) (hc0 : 0 < c) (hc : itr f c s = s) (hmin : ∀ t, 0 < t → t < c → s < itr f t s) : Ly ((List.range c).map (lt' e f s)) := by
  refine ly_of_rot (by intro q; rw [List.map_eq_nil_iff, List.range_eq_nil] at q; lia) fun x y exy hx hy => ?_
  have hlen : c = x.length + y.length := by have := congrArg List.length exy; simpa using this
  have hx0 : 0 < x.length := by cases x with | nil => exact absurd rfl hx | cons => simp
  have hy0 : 0 < y.length := by cases y with | nil => exact absurd rfl hy | cons => simp
  generalize ht : x.length = t at *
  have hgt := hmin t hx0 (by lia)
  have hitc : itr f c (itr f t s) = itr f t s := by rw [← itr_add, Nat.add_comm, itr_add, hc]
  -- the turned word
  have hrot : y ++ x = (List.range c).map (lt' e f (itr f t s)) := by
    have hxx : x = ((List.range c).map (lt' e f s)).take t := by rw [exy, ← ht, List.take_left']; rfl
    have hyy : y = ((List.range c).map (lt' e f s)).drop t := by rw [exy, ← ht, List.drop_left']; rfl
    refine List.ext_getElem (by simp; lia) fun i h1 h2 => ?_
    have hic : i < c := by simpa using h2
    simp only [List.getElem_map, List.getElem_range]
    rw [lt'_shift]
    by_cases hi : i < y.length
    · rw [List.getElem_append_left hi]
      simp only [hyy, List.getElem_drop, List.getElem_map, List.getElem_range]
    · rw [List.getElem_append_right (by lia)]
      simp only [hxx, List.getElem_take, List.getElem_map, List.getElem_range]
      rw [show t + i = (i - y.length) + c by lia, lt'_period e hc]
  rw [hrot]
  rcases part_fun (lt' e f s) (lt' e f (itr f t s)) c with h | ⟨k, hk, h1, h2⟩
  · exfalso
    have hall : ∀ k, lt' e f s k = lt' e f (itr f t s) k := fun k => by
      rw [lt'_mod e hc hc0, lt'_mod e hitc hc0]; exact h _ (Nat.mod_lt _ hc0)
    have hup : ∀ k, itr f k s < itr f (k + t) s := fun k => by
      have := (O.agree hgt (O.itr t s hs) k fun i _ => hall i).1
      rwa [← itr_add] at this
    have hchain : ∀ j, 0 < j → s < itr f (j * t) s := fun j hj => by
      induction j with
      | zero => lia
      | succ j ih =>
        by_cases hj0 : j = 0
        · subst hj0; simpa using hgt
        · have h1 := ih (by lia)
          have h2 := hup (j * t)
          rw [show j * t + t = (j + 1) * t by rw [Nat.succ_mul]] at h2
          lia
    have := hchain c hc0
    rw [Nat.mul_comm, itr_mul f t s c hc] at this
    lia
  · rw [llt_range hk h1 h2]
    have := (O.agree hgt (O.itr t s hs) k h1).2
    simp; lia
end
end Mine
end

section
-- part M7
namespace Mine
theorem nodup_len : ∀ (l L : List Nat), l.Nodup → (∀ x ∈ l, x ∈ L) → l.length ≤ L.length
  | [], _, _, _ => Nat.zero_le _
  | x :: l, L, hn, hs => by
    have hx := hs x (.head _)
    have := nodup_len l (L.erase x) (List.nodup_cons.mp hn).2 fun y hy => (List.mem_erase_of_ne (a := y) (b := x) (fun (e : y = x) => (List.nodup_cons.mp hn).1 (by rw [← e]; exact hy))).mpr (hs y (.tail _ hy))
    rw [List.length_erase_of_mem hx] at this
    have := List.length_pos_of_mem hx
    rw [List.length_cons]; lia
theorem least_ex (P : Nat → Prop) : (∃ k, P k) → ∃ k, P k ∧ ∀ j, j < k → ¬ P j := by
  rintro ⟨k, hk⟩
  induction k using Nat.strongRecOn with
  | _ k ih =>
    by_cases h : ∃ j, j < k ∧ P j
    · obtain ⟨j, hj, hp⟩ := h; exact ih j hj hp
    · exact ⟨k, hk, fun j hj hp => h ⟨j, hj, hp⟩⟩
section
variable {e : W} {f : Nat → Nat}
theorem Ord.itr_inj (O : Ord e f) : ∀ k p q, p < e.length → q < e.length → Mine.itr f k p = Mine.itr f k q → p = q
  | 0, _, _, _, _, h => h
  | k + 1, p, q, hp, hq, h => O.inj p q hp hq (O.itr_inj k _ _ (O.lt p hp) (O.lt q hq) h)
/-- each place comes back to itself -/
theorem Ord.period (O : Ord e f) {s : Nat} (hs : s < e.length) : ∃ c, (0 < c ∧ Mine.itr f c s = s) ∧ ∀ j, j < c → ¬ (0 < j ∧ Mine.itr f j s = s) := by
  refine least_ex _ ?_
  refine Classical.byContradiction fun hno => ?_
  have hne : ∀ j, 0 < j → Mine.itr f j s ≠ s := fun j hj h => hno ⟨j, hj, h⟩
  have hnd : ((List.range (e.length + 1)).map fun t => Mine.itr f t s).Nodup := by
    show List.Pairwise _ _
    rw [List.pairwise_map]
    refine List.Pairwise.imp_of_mem (fun {a b} ha hb hab => ?_) List.pairwise_lt_range
    intro h
    have hab' : a < b := hab
    have e1 : Mine.itr f b s = Mine.itr f a (Mine.itr f (b - a) s) := by rw [← itr_add]; congr 1; lia
    rw [e1] at h
    exact hne (b - a) (by lia) (O.itr_inj a _ _ hs (O.itr _ s hs) h).symm
  have := nodup_len _ (List.range e.length) hnd fun x hx => by
    obtain ⟨t, _, rfl⟩ := List.mem_map.mp hx
    exact List.mem_range.mpr (O.itr t s hs)
  simp at this
  lia
end
/-! ## reading the ends back -/
def ringF (e : W) (f : Nat → Nat) : Nat → Nat → List Nat → W → List Nat × W
  | 0, _, gone, part => (gone, part)
  | k + 1, place, gone, part => if place ∈ gone then (gone, part) else ringF e f k (f place) (gone ++ [place]) (part ++ [e.getD (f place) 0])
def backStep (e : W) (f : Nat → Nat) (st : List Nat × W) (start : Nat) : List Nat × W :=
  let r := ringF e f (e.length + 1) start st.1 []
  (r.1, r.2 ++ st.2)
def backG (e : W) (f : Nat → Nat) : W := ((List.range e.length).foldl (backStep e f) ([], [])).2
section
variable {e : W} {f : Nat → Nat}
/-- nothing outside leads in -/
def Cl (e : W) (f : Nat → Nat) (gone : List Nat) : Prop := ∀ p, p < e.length → (p ∈ gone ↔ f p ∈ gone)
theorem Cl.itr {gone : List Nat} (C : Cl e f gone) (O : Ord e f) : ∀ k p, p < e.length → (p ∈ gone ↔ itr f k p ∈ gone)
  | 0, _, _ => Iff.rfl
  | k + 1, p, h => (C p h).trans (Cl.itr C O k (f p) (O.lt p h))
theorem ringF_run (O : Ord e f) {gone : List Nat} (C : Cl e f gone) {s c : Nat} (hs : s < e.length) (hg : s ∉ gone) (hc0 : 0 < c) (hc : itr f c s = s) (hmin : ∀ j, j < c → ¬ (0 < j ∧ itr f j s = s)) :
    ∀ (k j : Nat), j ≤ c → c - j < k → ringF e f k (itr f j s) (gone ++ (List.range j).map fun t => itr f t s) ((List.range j).map (lt' e f s)) = (gone ++ (List.range c).map fun t => itr f t s, (List.range c).map (lt' e f s))
  | 0, j, _, h => by lia
  | k + 1, j, hj, h => by
    unfold ringF
    by_cases hjc : j = c
    · subst hjc
      rw [if_pos]
      rw [hc]
      exact List.mem_append_right _ (List.mem_map.mpr ⟨0, List.mem_range.mpr hc0, rfl⟩)
    · rw [if_neg]
      · have ih := ringF_run O C hs hg hc0 hc hmin k (j + 1) (by lia) (by lia)
        rw [List.range_succ, List.map_append, List.map_append] at ih
        rw [← List.append_assoc] at ih
        rw [itr_succ] at ih
        have e1 : lt' e f s j = e.getD (f (itr f j s)) 0 := by unfold lt'; rw [itr_succ]
        simp only [List.map_cons, List.map_nil, e1] at ih
        exact ih
      · intro hm
        rcases List.mem_append.mp hm with hm | hm
        · exact hg ((C.itr O j s hs).mpr hm)
        · obtain ⟨i, hi, he⟩ := List.mem_map.mp hm
          have hij : i < j := List.mem_range.mp hi
          have e1 : itr f j s = itr f i (itr f (j - i) s) := by rw [← itr_add]; congr 1; lia
          rw [e1] at he
          have := O.itr_inj i _ _ hs (O.itr _ s hs) he
          exact hmin (j - i) (by lia) ⟨by lia, this.symm⟩
end
end Mine
end

section
-- part M8
namespace Mine
abbrev ringL (f : Nat → Nat) (r : Nat × Nat) : List Nat := (List.range r.2).map fun t => itr f t r.1
abbrev partW (e : W) (f : Nat → Nat) (r : Nat × Nat) : W := (List.range r.2).map (lt' e f r.1)
structure RInv (e : W) (f : Nat → Nat) (rs : List (Nat × Nat)) (st : List Nat × W) (s : Nat) : Prop where
  gone : st.1 = rs.flatMap (ringL f)
  word : st.2 = (rs.reverse.map (partW e f)).flatten
  cl : Cl e f st.1
  nd : st.1.Nodup
  all : ∀ p, p < s → p ∈ st.1
  sm : ∀ p ∈ st.1, p < e.length
  ring : ∀ r ∈ rs, r.1 < e.length ∧ 0 < r.2 ∧ itr f r.2 r.1 = r.1 ∧ (∀ t, 0 < t → t < r.2 → r.1 < itr f t r.1) ∧ r.1 < s
  ord : rs.Pairwise fun a b => a.1 < b.1
section
variable {e : W} {f : Nat → Nat}
theorem ring_nodup (O : Ord e f) {s c : Nat} (hs : s < e.length) (hmin : ∀ j, j < c → ¬ (0 < j ∧ itr f j s = s)) : (ringL f (s, c)).Nodup := by
  show List.Pairwise _ _
  rw [List.pairwise_map]
  refine List.Pairwise.imp_of_mem (fun {a b} ha hb hab => ?_) List.pairwise_lt_range
  intro h
  have hab' : a < b := hab
  have hbc : b < c := List.mem_range.mp hb
  have e1 : itr f b s = itr f a (itr f (b - a) s) := by rw [← itr_add]; congr 1; lia
  rw [e1] at h
  exact hmin (b - a) (by lia) ⟨by lia, (O.itr_inj a _ _ hs (O.itr _ s hs) h).symm⟩
theorem back_step (O : Ord e f) {rs : List (Nat × Nat)} {st : List Nat × W} {s : Nat} (hs : s < e.length) (I : RInv e f rs st s) : ∃ rs', RInv e f rs' (backStep e f st s) (s + 1) := by
  by_cases hg : s ∈ st.1
  · have hb : backStep e f st s = (st.1, st.2) := by
      unfold backStep ringF; rw [if_pos hg]; rfl
    refine ⟨rs, ?_⟩
    rw [hb]
    exact ⟨I.gone, I.word, I.cl, I.nd, fun p hp => by
      by_cases h : p = s
      · exact h ▸ hg
      · exact I.all p (by lia), I.sm, fun r hr => let ⟨a, b, c, d, x⟩ := I.ring r hr; ⟨a, b, c, d, by lia⟩, I.ord⟩
  · obtain ⟨c, ⟨hc0, hc⟩, hmin⟩ := O.period hs
    have hnd := ring_nodup O hs hmin
    have hcn : c ≤ e.length := by
      have := nodup_len _ (List.range e.length) hnd fun x hx => by
        obtain ⟨t, _, rfl⟩ := List.mem_map.mp hx
        exact List.mem_range.mpr (O.itr t s hs)
      simpa using this
    have hrun := ringF_run O I.cl hs hg hc0 hc hmin (e.length + 1) 0 (by lia) (by lia)
    have hb : backStep e f st s = (st.1 ++ ringL f (s, c), partW e f (s, c) ++ st.2) := by
      unfold backStep
      have h0 : ringF e f (e.length + 1) s st.1 [] = (st.1 ++ ringL f (s, c), partW e f (s, c)) := by
        have h1 : (st.1 ++ (List.range 0).map fun t => itr f t s) = st.1 := by simp
        rw [h1] at hrun
        exact hrun
      rw [h0]
    have hdis : ∀ x ∈ ringL f (s, c), x ∉ st.1 := fun x hx hm => by
      obtain ⟨t, _, rfl⟩ := List.mem_map.mp hx
      exact hg ((I.cl.itr O t s hs).mpr hm)
    refine ⟨rs ++ [(s, c)], ?_⟩
    rw [hb]
    refine ⟨by rw [I.gone]; simp, by rw [I.word]; simp, ?_, ?_, fun p hp => ?_, fun p hp => ?_, fun r hr => ?_, ?_⟩
    · intro p hp
      constructor
      · intro h
        rcases List.mem_append.mp h with h | h
        · exact List.mem_append_left _ ((I.cl p hp).mp h)
        · obtain ⟨t, ht, rfl⟩ := List.mem_map.mp h
          have htc : t < c := List.mem_range.mp ht
          refine List.mem_append_right _ ?_
          by_cases h1 : t + 1 = c
          · exact List.mem_map.mpr ⟨0, List.mem_range.mpr hc0, by rw [← itr_succ f t s, h1, hc]; rfl⟩
          · exact List.mem_map.mpr ⟨t + 1, List.mem_range.mpr (by lia), itr_succ f t s⟩
      · intro h
        rcases List.mem_append.mp h with h | h
        · exact List.mem_append_left _ ((I.cl p hp).mpr h)
        · obtain ⟨t, ht, he⟩ := List.mem_map.mp h
          have htc : t < c := List.mem_range.mp ht
          refine List.mem_append_right _ ?_
          by_cases h0 : t = 0
          · subst h0
            have e1 : itr f c s = f (itr f (c - 1) s) := by rw [← itr_succ f (c - 1) s]; congr 1; lia
            have : p = itr f (c - 1) s := O.inj _ _ hp (O.itr _ s hs) (by rw [← e1, hc]; exact he.symm)
            exact List.mem_map.mpr ⟨c - 1, List.mem_range.mpr (by lia), this.symm⟩
          · have e1 : itr f t s = f (itr f (t - 1) s) := by rw [← itr_succ f (t - 1) s]; congr 1; lia
            have : p = itr f (t - 1) s := O.inj _ _ hp (O.itr _ s hs) (by rw [← e1]; exact he.symm)
            exact List.mem_map.mpr ⟨t - 1, List.mem_range.mpr (by lia), this.symm⟩
    · exact List.nodup_append.mpr ⟨I.nd, hnd, fun a ha b hb hab => hdis b hb (hab ▸ ha)⟩
    · by_cases h : p = s
      · exact List.mem_append_right _ (List.mem_map.mpr ⟨0, List.mem_range.mpr hc0, h.symm⟩)
      · exact List.mem_append_left _ (I.all p (by lia))
    · rcases List.mem_append.mp hp with h | h
      · exact I.sm p h
      · obtain ⟨t, _, rfl⟩ := List.mem_map.mp h; exact O.itr t s hs
    · rcases List.mem_append.mp hr with h | h
      · obtain ⟨a, b, c', d, x⟩ := I.ring r h; exact ⟨a, b, c', d, by lia⟩
      · rw [List.mem_singleton] at h; subst h
        refine ⟨hs, hc0, hc, fun t ht htc => ?_, by lia⟩
        rcases Nat.lt_trichotomy s (itr f t s) with h | h | h
        · exact h
        · exact absurd ⟨ht, h.symm⟩ (hmin t htc)
        · exact absurd (I.all _ h) (hdis _ (List.mem_map.mpr ⟨t, List.mem_range.mpr htc, rfl⟩))
    · refine List.pairwise_append.mpr ⟨I.ord, List.pairwise_singleton _ _, fun a ha b hb => ?_⟩
      rw [List.mem_singleton] at hb; subst hb
      exact (I.ring a ha).2.2.2.2
theorem back_inv (O : Ord e f) : ∀ s, s ≤ e.length → ∃ rs, RInv e f rs ((List.range s).foldl (backStep e f) ([], [])) s
  | 0, _ => ⟨[], rfl, rfl, fun p _ => by simp, List.nodup_nil, fun p hp => absurd hp (Nat.not_lt_zero p), fun p hp => by simp at hp, fun r hr => by simp at hr, List.Pairwise.nil⟩
  | s + 1, h => by
    obtain ⟨rs, I⟩ := back_inv O s (by lia)
    rw [List.range_succ, List.foldl_append]
    exact back_step O (by lia) I
end
end Mine
end

section
-- part M9
namespace Mine
section
variable {e : W} {f : Nat → Nat}
theorem om_part {r : Nat × Nat} (h0 : 0 < r.2) (hc : itr f r.2 r.1 = r.1) (k : Nat) : om (partW e f r) k = lt' e f r.1 k := by
  have hl : (partW e f r).length = r.2 := by simp
  have hk : k % (partW e f r).length < (partW e f r).length := by rw [hl]; exact Nat.mod_lt _ h0
  unfold om
  rw [List.getD_eq_getElem?_getD, List.getElem?_eq_getElem hk, Option.getD_some]
  simp only [List.getElem_map, List.getElem_range]
  rw [hl, ← lt'_mod e hc h0]
theorem part_ne {r : Nat × Nat} (h0 : 0 < r.2) : partW e f r ≠ [] := by
  intro q
  have := congrArg List.length q
  simp at this; lia
theorem part_ni (O : Ord e f) {a b : Nat × Nat} (hab : a.1 < b.1) (hb : b.1 < e.length) (ha0 : 0 < a.2) (hac : itr f a.2 a.1 = a.1) (hb0 : 0 < b.2) (hbc : itr f b.2 b.1 = b.1)
    (la : Ly (partW e f a)) (lb : Ly (partW e f b)) : llt (partW e f b) (partW e f a) = false := by
  refine ly_le la lb ?_
  rcases part_or_same (partW e f b) (partW e f a) ((partW e f b).length + (partW e f a).length) with h | ⟨k, hk, h1, h2⟩
  · rw [cat_same (part_ne hb0) (part_ne ha0) h, llt_irrefl]
  · rw [(cat_part (part_ne hb0) (part_ne ha0) hk h1 h2).2]
    have hle := O.le hab hb ((partW e f b).length + (partW e f a).length)
    have e1 : ∀ i, lt' e f b.1 i = om (partW e f b) i := fun i => (om_part hb0 hbc i).symm
    have e2 : ∀ i, lt' e f a.1 i = om (partW e f a) i := fun i => (om_part ha0 hac i).symm
    rw [llt_range hk (fun i hi => by rw [e1, e2]; exact h1 i hi) (by rw [e1, e2]; exact h2), e1, e2] at hle
    exact hle
theorem back_facto (O : Ord e f) : ∃ rs st, RInv e f rs st e.length ∧ st.2 = backG e f ∧ facto (backG e f) = rs.reverse.map (partW e f) := by
  obtain ⟨rs, I⟩ := back_inv O e.length (Nat.le_refl _)
  have hly : ∀ r ∈ rs, Ly (partW e f r) := fun r hr => let ⟨a, b, c, d, _⟩ := I.ring r hr; ring_ly O a b c d
  refine ⟨rs, _, I, rfl, ?_⟩
  have hw : backG e f = (rs.reverse.map (partW e f)).flatten := I.word
  rw [hw]
  refine facto_flatten _ ?_ ?_
  · unfold NI
    rw [List.pairwise_map, List.pairwise_reverse]
    refine List.Pairwise.imp_of_mem (fun {a b} ha hb hab => ?_) I.ord
    obtain ⟨_, a0, ac, _, _⟩ := I.ring a ha
    obtain ⟨bn, b0, bc, _, _⟩ := I.ring b hb
    exact part_ni O hab bn a0 ac b0 bc (hly a ha) (hly b hb)
  · intro p hp
    obtain ⟨r, hr, rfl⟩ := List.mem_map.mp hp
    exact hly r (List.mem_reverse.mp hr)
/-- the turnings of a ring's word -/
theorem rot_part {s c t : Nat} (hc : itr f c s = s) (ht : t < c) : ((partW e f (s, c)).drop t ++ (partW e f (s, c)).take t) = (List.range c).map (lt' e f (itr f t s)) := by
  refine List.ext_getElem (by simp; lia) fun i h1 h2 => ?_
  have hic : i < c := by simpa using h2
  simp only [List.getElem_map, List.getElem_range]
  rw [lt'_shift]
  by_cases hi : i < c - t
  · rw [List.getElem_append_left (by simpa using hi)]
    simp
  · rw [List.getElem_append_right (by simp; lia)]
    simp only [List.getElem_take, List.getElem_map, List.getElem_range, List.length_drop, List.length_map, List.length_range]
    rw [show t + i = (i - (c - t)) + c by lia, lt'_period e hc]
end
end Mine
end

section
-- part M10
namespace Mine
/-! ## turnings and ends -/
def turns0 (w : W) : List W := (facto w).flatMap fun p => (List.range p.length).map fun i => p.drop i ++ p.take i
def sortBy (m : Nat) (T : List W) : List W := (srt (fun i j => llt (pre m (T.getD i [])) (pre m (T.getD j []))) T.length).map fun i => T.getD i []
def turnsF (m : Nat) (w : W) : List W := sortBy m (turns0 w)
def endsF (m : Nat) (w : W) : W := (turnsF m w).map fun t => t.getD (t.length - 1) 0
def orderF (e : W) : List Nat := srt (fun p q => decide (e.getD p 0 < e.getD q 0)) e.length
def fO (e : W) (p : Nat) : Nat := (orderF e).getD p 0
def backF (e : W) : W := backG e (fO e)
theorem range_getD {α : Type} (T : List α) (d : α) : (List.range T.length).map (fun i => T.getD i d) = T := by
  refine List.ext_getElem (by simp) fun i h1 h2 => ?_
  simp [List.getD_eq_getElem?_getD, h2]
theorem sortBy_perm (m : Nat) (T : List W) : (sortBy m T).Perm T := by
  have h := (srt_SS (SW_key fun i => pre m (T.getD i [])) T.length).1
  have := h.map fun i => T.getD i []
  rwa [range_getD] at this
theorem sortBy_sorted (m : Nat) (T : List W) : (sortBy m T).Pairwise fun a b => llt (pre m b) (pre m a) = false := by
  have h := (srt_SS (SW_key fun i => pre m (T.getD i [])) T.length).2
  unfold sortBy
  rw [List.pairwise_map]
  refine h.imp fun {a b} h => ?_
  rcases h with h | h
  · exact llt_asymm h
  · exact h.1
/-- a list in order that holds the same words is the sorted one -/
theorem sortBy_eq {m : Nat} {T S : List W} (hp : T.Perm S) (hs : S.Pairwise fun a b => llt (pre m b) (pre m a) = false) (hu : ∀ a ∈ S, ∀ b ∈ S, pre m a = pre m b → a = b) : sortBy m T = S := by
  refine perm_unique (fun a ha b hb h1 h2 => ?_) (sortBy_sorted m T) hs ((sortBy_perm m T).trans hp)
  have ha' : a ∈ S := ((sortBy_perm m T).trans hp).mem_iff.mp ha
  refine hu a ha' b (((sortBy_perm m T).trans hp).mem_iff.mp hb) ?_
  rcases llt_total (pre m a) (pre m b) with q | q | q
  · rw [h2] at q; cases q
  · exact q
  · rw [h1] at q; cases q
theorem ord_fO (e : W) : Ord e (fO e) := by
  obtain ⟨h1, h2⟩ := srt_SS (SW_int fun i => e.getD i 0) e.length
  have hl : (orderF e).length = e.length := by have := h1.length_eq; rw [List.length_range] at this; exact this
  have hg : ∀ p, p < e.length → ∃ (hp : p < (orderF e).length), fO e p = (orderF e)[p] := fun p hp => ⟨by lia, by unfold fO; rw [List.getD_eq_getElem?_getD, List.getElem?_eq_getElem (by lia)]; rfl⟩
  have hnd : (orderF e).Nodup := h1.nodup_iff.mpr List.nodup_range
  refine ⟨fun p hp => ?_, fun p q hp hq h => ?_, fun p q hpq hq => ?_⟩
  · obtain ⟨hp', e1⟩ := hg p hp
    rw [e1]
    exact List.mem_range.mp (h1.mem_iff.mp (List.getElem_mem hp'))
  · obtain ⟨hp', e1⟩ := hg p hp
    obtain ⟨hq', e2⟩ := hg q hq
    rw [e1, e2] at h
    exact (List.getElem_inj hnd).mp h
  · obtain ⟨hp', e1⟩ := hg p (by lia)
    obtain ⟨hq', e2⟩ := hg q hq
    have := List.pairwise_iff_getElem.mp h2 p q hp' hq' hpq
    rw [e1, e2]
    rcases this with h | ⟨h, h'⟩
    · exact .inl (of_decide_eq_true h)
    · have this : ¬ e.getD (orderF e)[q] 0 < e.getD (orderF e)[p] 0 := of_decide_eq_false h
      by_cases hlt : e.getD (orderF e)[p] 0 < e.getD (orderF e)[q] 0
      · exact .inl hlt
      · exact .inr ⟨by lia, h'⟩
section
variable {e : W} {f : Nat → Nat}
theorem back_same (O : Ord e f) {q d c : Nat} (hq : q < e.length) (hd0 : 0 < d) (hd : itr f d q = q) (h : ∀ i, lt' e f (itr f c q) i = lt' e f q i) : itr f c q = q := by
  have hc' := O.itr c q hq
  have hch : ∀ (a b : Nat), a < b → a < e.length → b < e.length → (∀ i, lt' e f a i = lt' e f b i) → ∀ k, itr f k a < itr f k b := fun a b hab ha hb hi k => (O.agree hab hb k fun i _ => hi i).1
  have hmul : ∀ j, itr f (j * c) (itr f c q) = itr f ((j + 1) * c) q := fun j => by rw [← itr_add]; congr 1; rw [Nat.succ_mul]
  rcases Nat.lt_trichotomy (itr f c q) q with hlt | heq | hgt
  · exfalso
    have hstep := fun k => hch _ _ hlt hc' hq h k
    have : ∀ j, 0 < j → itr f (j * c) q < q := fun j hj => by
      induction j with
      | zero => lia
      | succ j ih =>
        by_cases hj0 : j = 0
        · subst hj0; simpa using hlt
        · have h1 := ih (by lia)
          have h2 := hstep (j * c)
          rw [hmul] at h2; lia
    have h3 := this d hd0
    rw [Nat.mul_comm, itr_mul f c q d hd] at h3
    lia
  · exact heq
  · exfalso
    have hstep := fun k => hch _ _ hgt hq hc' (fun i => (h i).symm) k
    have : ∀ j, 0 < j → q < itr f (j * c) q := fun j hj => by
      induction j with
      | zero => lia
      | succ j ih =>
        by_cases hj0 : j = 0
        · subst hj0; simpa using hgt
        · have h1 := ih (by lia)
          have h2 := hstep (j * c)
          rw [hmul] at h2; lia
    have h3 := this d hd0
    rw [Nat.mul_comm, itr_mul f c q d hd] at h3
    lia
/-- how long a place's ring is -/
def per (e : W) (f : Nat → Nat) (p : Nat) : Nat := ((List.range e.length).find? fun c => itr f (c + 1) p == p).getD 0 + 1
theorem per_eq {p c : Nat} (h0 : 0 < c) (hn : c ≤ e.length) (hc : itr f c p = p) (hmin : ∀ j, 0 < j → j < c → itr f j p ≠ p) : per e f p = c := by
  unfold per
  have : (List.range e.length).find? (fun c => itr f (c + 1) p == p) = some (c - 1) := by
    rw [List.find?_range_eq_some]
    refine ⟨by rw [show c - 1 + 1 = c by lia, hc]; simp, List.mem_range.mpr (by lia), fun j hj => ?_⟩
    simpa using hmin (j + 1) (by lia) (by lia)
  rw [this]
  show c - 1 + 1 = c
  lia
end
end Mine
end

section
-- part M11
namespace Mine
theorem flatMap_congr' {α β : Type} {g k : α → List β} : ∀ (l : List α), (∀ a ∈ l, g a = k a) → l.flatMap g = l.flatMap k
  | [], _ => rfl
  | a :: l, h => by rw [List.flatMap_cons, List.flatMap_cons, h a (.head _), flatMap_congr' l fun b hb => h b (.tail _ hb)]
section
variable {e : W} {f : Nat → Nat}
abbrev turnW (e : W) (f : Nat → Nat) (p : Nat) : W := (List.range (per e f p)).map (lt' e f p)
theorem per_ring (O : Ord e f) {s c t : Nat} (hs : s < e.length) (hc0 : 0 < c) (hc : itr f c s = s) (hmin : ∀ t, 0 < t → t < c → s < itr f t s) : per e f (itr f t s) = c := by
  have hmin' : ∀ j, j < c → ¬ (0 < j ∧ itr f j s = s) := fun j hj h => by have := hmin j h.1 hj; lia
  have hcn : c ≤ e.length := by
    have := nodup_len _ (List.range e.length) (ring_nodup O hs hmin') fun x hx => by
      obtain ⟨t, _, rfl⟩ := List.mem_map.mp hx
      exact List.mem_range.mpr (O.itr t s hs)
    simpa using this
  refine per_eq hc0 hcn (by rw [← itr_add, Nat.add_comm, itr_add, hc]) fun j hj hjc he => ?_
  rw [← itr_add, Nat.add_comm, itr_add] at he
  have := O.itr_inj t _ _ (O.itr j s hs) hs he
  have := hmin j hj hjc
  lia
theorem turns_back (O : Ord e f) {rs : List (Nat × Nat)} {st : List Nat × W} (I : RInv e f rs st e.length) (h : facto (backG e f) = rs.reverse.map (partW e f)) : turns0 (backG e f) = (rs.reverse.flatMap (ringL f)).map (turnW e f) := by
  unfold turns0
  rw [h, List.map_flatMap, List.flatMap_map]
  refine flatMap_congr' _ fun r hr => ?_
  obtain ⟨a, b, c, d, _⟩ := I.ring r (List.mem_reverse.mp hr)
  rw [List.map_map, List.length_map, List.length_range]
  refine List.map_congr_left fun t ht => ?_
  have htc : t < r.2 := List.mem_range.mp ht
  show _ = (List.range (per e f (itr f t r.1))).map (lt' e f (itr f t r.1))
  rw [per_ring O a b c d]
  exact rot_part (s := r.1) (c := r.2) c htc
theorem places_perm {rs : List (Nat × Nat)} {st : List Nat × W} (I : RInv e f rs st e.length) : (rs.reverse.flatMap (ringL f)).Perm (List.range e.length) := by
  have h1 : (rs.reverse.flatMap (ringL f)).Perm st.1 := by rw [I.gone]; exact (List.reverse_perm rs).flatMap_right _
  refine h1.trans ?_
  rw [List.perm_iff_count]
  intro a
  rw [I.nd.count, List.nodup_range.count]
  by_cases ha : a < e.length
  · rw [if_pos (I.all a ha), if_pos (List.mem_range.mpr ha)]
  · rw [if_neg (fun q => ha (I.sm a q)), if_neg (fun q => ha (List.mem_range.mp q))]
theorem place_of {rs : List (Nat × Nat)} {st : List Nat × W} (O : Ord e f) (I : RInv e f rs st e.length) {p : Nat} (hp : p < e.length) : 0 < per e f p ∧ per e f p ≤ e.length ∧ itr f (per e f p) p = p ∧ ∀ j, 0 < j → j < per e f p → itr f j p ≠ p := by
  obtain ⟨c, ⟨h0, hc⟩, hmin⟩ := O.period hp
  have hcn : c ≤ e.length := by
    have := nodup_len _ (List.range e.length) (ring_nodup O hp hmin) fun x hx => by
      obtain ⟨t, _, rfl⟩ := List.mem_map.mp hx
      exact List.mem_range.mpr (O.itr t p hp)
    simpa using this
  have hpe := per_eq h0 hcn hc fun j hj hjc h => hmin j hjc ⟨hj, h⟩
  rw [hpe]
  exact ⟨h0, hcn, hc, fun j hj hjc h => hmin j hjc ⟨hj, h⟩⟩
theorem om_turn {p : Nat} (h0 : 0 < per e f p) (hc : itr f (per e f p) p = p) (k : Nat) : om (turnW e f p) k = lt' e f p k := om_part (r := (p, per e f p)) h0 hc k
theorem ends_back (e : W) (m : Nat) (hm : 2 * e.length ≤ m) : endsF m (backF e) = e := by
  have O := ord_fO e
  obtain ⟨rs, st, I, _, hfac⟩ := back_facto O
  have hpl := fun p hp => place_of O I (p := p) hp
  have hT := turns_back O I hfac
  have hpre : ∀ p, p < e.length → pre m (turnW e (fO e) p) = (List.range m).map (lt' e (fO e) p) := fun p hp => by
    unfold pre; exact List.map_congr_left fun k _ => om_turn (hpl p hp).1 (hpl p hp).2.2.1 k
  have hS : turnsF m (backF e) = (List.range e.length).map (turnW e (fO e)) := by
    unfold turnsF backF
    rw [hT]
    refine sortBy_eq ((places_perm I).map _) ?_ ?_
    · rw [List.pairwise_map]
      refine List.Pairwise.imp_of_mem (fun {a b} ha hb hab => ?_) List.pairwise_lt_range
      have ha' := List.mem_range.mp ha
      have hb' := List.mem_range.mp hb
      rw [hpre a ha', hpre b hb']
      exact O.le hab hb' m
    · intro a ha b hb hab
      obtain ⟨p, hp, rfl⟩ := List.mem_map.mp ha
      obtain ⟨q, hq, rfl⟩ := List.mem_map.mp hb
      have hp' := List.mem_range.mp hp
      have hq' := List.mem_range.mp hq
      obtain ⟨p0, pn, pc, pm⟩ := hpl p hp'
      obtain ⟨q0, qn, qc, qm⟩ := hpl q hq'
      rw [hpre p hp', hpre q hq'] at hab
      have hagree : ∀ i, i < m → lt' e (fO e) p i = lt' e (fO e) q i := fun i hi => by
        have := congrArg (fun l => l[i]?) hab
        simpa [hi] using this
      have hne : ∀ r, 0 < per e (fO e) r → turnW e (fO e) r ≠ [] := fun r h => part_ne (r := (r, per e (fO e) r)) h
      have hlen : ∀ r, (turnW e (fO e) r).length = per e (fO e) r := fun r => by simp
      have hall : ∀ i, lt' e (fO e) p i = lt' e (fO e) q i := fun i => by
        rw [← om_turn p0 pc, ← om_turn q0 qc]
        refine om_all (hne p p0) (hne q q0) (fun i hi => ?_) i
        rw [hlen, hlen] at hi
        rw [om_turn p0 pc, om_turn q0 qc]
        exact hagree i (by lia)
      have key : ∀ (a b : Nat), a < e.length → b < e.length → 0 < per e (fO e) a → itr (fO e) (per e (fO e) a) a = a → 0 < per e (fO e) b → itr (fO e) (per e (fO e) b) b = b → (∀ i, lt' e (fO e) a i = lt' e (fO e) b i) → itr (fO e) (per e (fO e) a) b = b := fun a b ha hb a0 ac b0 bc h => by
        refine back_same O hb b0 bc fun i => ?_
        rw [lt'_shift, ← h, ← h, Nat.add_comm, lt'_period e ac]
      have k1 := key p q hp' hq' p0 pc q0 qc hall
      have k2 := key q p hq' hp' q0 qc p0 pc fun i => (hall i).symm
      have hpq : per e (fO e) p = per e (fO e) q := by
        rcases Nat.lt_trichotomy (per e (fO e) p) (per e (fO e) q) with h | h | h
        · exact absurd k1 (qm _ p0 h)
        · exact h
        · exact absurd k2 (pm _ q0 h)
      show (List.range (per e (fO e) p)).map _ = (List.range (per e (fO e) q)).map _
      rw [hpq]
      exact List.map_congr_left fun i _ => hall i
  unfold endsF
  rw [hS, List.map_map]
  conv => rhs; rw [← range_getD e 0]
  refine List.map_congr_left fun p hp => ?_
  have hp' := List.mem_range.mp hp
  obtain ⟨p0, pn, pc, pm⟩ := hpl p hp'
  show (turnW e (fO e) p).getD ((turnW e (fO e) p).length - 1) 0 = e.getD p 0
  have hl : (turnW e (fO e) p).length = per e (fO e) p := by simp
  rw [hl, List.getD_eq_getElem?_getD, List.getElem?_eq_getElem (by rw [hl]; lia), Option.getD_some]
  simp only [List.getElem_map, List.getElem_range]
  unfold lt'
  rw [show per e (fO e) p - 1 + 1 = per e (fO e) p by lia, pc]
end
end Mine
end

section
-- part M12
namespace Mine
/-! ## there and back -/
theorem nodup_len' {α : Type} [BEq α] [LawfulBEq α] : ∀ (l L : List α), l.Nodup → (∀ x ∈ l, x ∈ L) → l.length ≤ L.length
  | [], _, _, _ => Nat.zero_le _
  | x :: l, L, hn, hs => by
    have hx := hs x (.head _)
    have := nodup_len' l (L.erase x) (List.nodup_cons.mp hn).2 fun y hy => (List.mem_erase_of_ne (a := y) (b := x) (fun (e : y = x) => (List.nodup_cons.mp hn).1 (by rw [← e]; exact hy))).mpr (hs y (.tail _ hy))
    rw [List.length_erase_of_mem hx] at this
    have := List.length_pos_of_mem hx
    rw [List.length_cons]; lia
theorem onto {α : Type} [BEq α] [LawfulBEq α] {l L : List α} (hn : l.Nodup) (hs : ∀ x ∈ l, x ∈ L) (hl : L.length ≤ l.length) : ∀ x ∈ L, x ∈ l := fun x hx => by
  refine Classical.byContradiction fun h => ?_
  have := nodup_len' (x :: l) L (List.nodup_cons.mpr ⟨h, hn⟩) fun y hy => by
    rcases List.mem_cons.mp hy with rfl | hy
    · exact hx
    · exact hs y hy
  rw [List.length_cons] at this; lia
def letters : List Int := [0, 1, 2]
def words : Nat → List W
  | 0 => [[]]
  | n + 1 => (words n).flatMap fun w => letters.map fun a => a :: w
theorem mem_words : ∀ (n : Nat) (w : W), w ∈ words n ↔ w.length = n ∧ ∀ a ∈ w, a ∈ letters
  | 0, w => by
    unfold words
    rw [List.mem_singleton]
    constructor
    · rintro rfl; simp
    · rintro ⟨h, _⟩; exact List.length_eq_zero_iff.mp h
  | n + 1, w => by
    unfold words
    rw [List.mem_flatMap]
    constructor
    · rintro ⟨u, hu, hw⟩
      obtain ⟨a, ha, rfl⟩ := List.mem_map.mp hw
      obtain ⟨h1, h2⟩ := (mem_words n u).mp hu
      refine ⟨by simp [h1], fun b hb => ?_⟩
      rcases List.mem_cons.mp hb with rfl | hb
      · exact ha
      · exact h2 b hb
    · rintro ⟨h1, h2⟩
      cases w with
      | nil => simp at h1
      | cons a u => exact ⟨u, (mem_words n u).mpr ⟨by simpa using h1, fun b hb => h2 b (.tail _ hb)⟩, List.mem_map.mpr ⟨a, h2 a (.head _), rfl⟩⟩
theorem words_nodup : ∀ n, (words n).Nodup
  | 0 => by unfold words; simp
  | n + 1 => by
    unfold words
    show List.Pairwise _ _
    rw [List.pairwise_flatMap]
    refine ⟨fun w _ => ?_, (words_nodup n).imp fun {u v} huv x hx y hy hxy => ?_⟩
    · unfold letters; simp
    · obtain ⟨a, _, rfl⟩ := List.mem_map.mp hx
      obtain ⟨b, _, rfl⟩ := List.mem_map.mp hy
      injection hxy with _ h
      exact huv h
theorem back_eq {e : W} {f : Nat → Nat} {rs : List (Nat × Nat)} {st : List Nat × W} (I : RInv e f rs st e.length) : st.2 = (rs.reverse.flatMap (ringL f)).map fun p => e.getD (f p) 0 := by
  rw [I.word, List.map_flatMap, List.flatMap_def]
  congr 1
  refine List.map_congr_left fun r _ => ?_
  rw [List.map_map]
  refine List.map_congr_left fun t _ => ?_
  show e.getD (itr f (t + 1) r.1) 0 = e.getD (f (itr f t r.1)) 0
  rw [itr_succ]
theorem back_words {n : Nat} {e : W} (h : e ∈ words n) : backF e ∈ words n := by
  obtain ⟨h1, h2⟩ := (mem_words n e).mp h
  have O := ord_fO e
  obtain ⟨rs, st, I, hst, _⟩ := back_facto O
  have hb : backF e = (rs.reverse.flatMap (ringL (fO e))).map fun p => e.getD (fO e p) 0 := by
    unfold backF; rw [← hst]; exact back_eq I
  have hp := places_perm I
  rw [mem_words, hb]
  refine ⟨by rw [List.length_map, hp.length_eq, List.length_range, h1], fun a ha => ?_⟩
  obtain ⟨p, hpm, rfl⟩ := List.mem_map.mp ha
  have hpn := List.mem_range.mp (hp.mem_iff.mp hpm)
  have hfp := O.lt p hpn
  rw [List.getD_eq_getElem?_getD, List.getElem?_eq_getElem hfp]
  exact h2 _ (List.getElem_mem hfp)
theorem back_ends {n m : Nat} {w : W} (hm : 2 * n ≤ m) (h : w ∈ words n) : backF (endsF m w) = w := by
  have hlen : ∀ e ∈ words n, e.length = n := fun e he => ((mem_words n e).mp he).1
  have hinj : ((words n).map backF).Nodup := by
    show List.Pairwise _ _
    rw [List.pairwise_map]
    refine List.Pairwise.imp_of_mem (fun {a b} ha hb hab heq => hab ?_) (words_nodup n)
    rw [← ends_back a m (by rw [hlen a ha]; exact hm), ← ends_back b m (by rw [hlen b hb]; exact hm), heq]
  have hsub : ∀ x ∈ (words n).map backF, x ∈ words n := fun x hx => by
    obtain ⟨e, he, rfl⟩ := List.mem_map.mp hx; exact back_words he
  obtain ⟨e, he, rfl⟩ := List.mem_map.mp (onto hinj hsub (by simp) w h)
  rw [ends_back e m (by rw [hlen e he]; exact hm)]
end Mine
end

section
-- part M13
namespace Mine
theorem sortBy_idem {m : Nat} {T : List W} (h : T.Pairwise fun a b => llt (pre m b) (pre m a) = false) : sortBy m T = T := by
  have hSW := SW_key fun i => pre m (T.getD i [])
  have hid : SS (fun i j => llt (pre m (T.getD i [])) (pre m (T.getD j []))) T.length (List.range T.length) := by
    refine ⟨List.Perm.refl _, List.Pairwise.imp_of_mem (fun {a b} ha hb hab => ?_) List.pairwise_lt_range⟩
    have ha' := List.mem_range.mp ha
    have hb' := List.mem_range.mp hb
    refine .inr ⟨?_, hab⟩
    have := List.pairwise_iff_getElem.mp h a b ha' hb' hab
    show llt (pre m (T.getD b [])) (pre m (T.getD a [])) = false
    rw [List.getD_eq_getElem?_getD, List.getD_eq_getElem?_getD, List.getElem?_eq_getElem ha', List.getElem?_eq_getElem hb']
    exact this
  unfold sortBy
  rw [SS_unique hSW (srt_SS hSW _) hid, range_getD]
theorem turns_idem (m : Nat) (w : W) : sortBy m (turnsF m w) = turnsF m w := sortBy_idem (sortBy_sorted m _)
/-- the key of the law: a turning, laid many times, cut -/
def keyF (k m : Nat) (u : W) : W := ((List.replicate k u).flatten).take m
theorem rep_get {u : W} : ∀ (k i : Nat), i < k * u.length → ((List.replicate k u).flatten)[i]? = some (om u i)
  | 0, i, h => by rw [Nat.zero_mul] at h; lia
  | k + 1, i, h => by
    rw [List.replicate_succ, List.flatten_cons]
    by_cases hi : i < u.length
    · rw [List.getElem?_append_left hi, om_lt hi, List.getElem?_eq_getElem hi]
    · rw [List.getElem?_append_right (by lia), rep_get k (i - u.length) (by rw [Nat.succ_mul] at h; lia), om_sub (u := u) (i := i) (by lia)]
theorem keyF_eq {k m : Nat} {u : W} (hu : u ≠ []) (hk : m ≤ k) : keyF k m u = pre m u := by
  have hl : 0 < u.length := by cases u with | nil => exact absurd rfl hu | cons => simp
  have hlen : m ≤ k * u.length := Nat.le_trans hk (Nat.le_mul_of_pos_right k hl)
  refine List.ext_getElem? fun i => ?_
  unfold keyF pre
  by_cases hi : i < m
  · rw [List.getElem?_take_of_lt hi, rep_get k i (by lia)]
    simp [hi]
  · rw [List.getElem?_eq_none (by simp; lia), List.getElem?_eq_none (by simp; lia)]
/-! the law's own checks -/
theorem facto_ge (w : W) (i : Nat) (h : i + 1 < (facto w).length) : llt ((facto w)[i]'(by lia)) ((facto w)[i + 1]) = false :=
  List.pairwise_iff_getElem.mp (facto_spec w).1 i (i + 1) (by lia) h (by lia)
theorem turns0_ne {w u : W} (h : u ∈ turns0 w) : u ≠ [] ∧ u.length ≤ w.length := by
  unfold turns0 at h
  obtain ⟨p, hp, hu⟩ := List.mem_flatMap.mp h
  obtain ⟨i, _, rfl⟩ := List.mem_map.mp hu
  have hly := (facto_spec w).2.1 p hp
  have hpl : (p.drop i ++ p.take i).length = p.length := by simp; lia
  have hp0 : 0 < p.length := by cases p with | nil => exact absurd rfl hly.1 | cons => simp
  refine ⟨fun q => by rw [q] at hpl; simp at hpl; lia, ?_⟩
  rw [hpl]
  have hfl := (facto_spec w).2.2
  have : p.length ≤ (facto w).flatten.length := by
    obtain ⟨s, t, e⟩ := List.append_of_mem hp
    rw [e, List.flatten_append, List.flatten_cons, List.length_append, List.length_append]
    lia
  rwa [hfl] at this
end Mine
end

section
-- part L1
open PySem PySem.W PyProof.Rows
open MeetsSeq MeetsSeq3
open AutoSeq1 (wpAny_loadPart')
set_option maxRecDepth 100000
set_option maxHeartbeats 1000000
namespace Mine
/-! ## words on the heap -/
inductive Ints : List Value → W → Prop
  | nil : Ints [] []
  | cons {i t vs w} : Ints vs w → Ints (.int i t :: vs) (i :: w)
theorem Ints.length {vs w} (h : Ints vs w) : vs.length = w.length := by induction h <;> simp_all
theorem Ints.append {a b u v} (h : Ints a u) (k : Ints b v) : Ints (a ++ b) (u ++ v) := by
  induction h with
  | nil => exact k
  | cons _ ih => exact .cons ih
theorem Ints.take {vs w} (h : Ints vs w) : ∀ n, Ints (vs.take n) (w.take n) := by
  induction h with
  | nil => intro n; simp; exact .nil
  | cons _ ih => intro n; cases n with
    | zero => exact .nil
    | succ n => exact .cons (ih n)
theorem Ints.drop {vs w} (h : Ints vs w) : ∀ n, Ints (vs.drop n) (w.drop n) := by
  induction h with
  | nil => intro n; simp; exact .nil
  | cons h ih => intro n; cases n with
    | zero => exact .cons h
    | succ n => exact ih n
theorem Ints.get {vs w} (h : Ints vs w) : ∀ (k : Nat) (hk : k < w.length), ∃ t, vs[k]? = some (.int w[k] t) := by
  induction h with
  | nil => intro k hk; simp at hk
  | @cons i t vs w h ih => intro k hk; cases k with
    | zero => exact ⟨t, rfl⟩
    | succ k => simpa using ih k (by simpa using hk)
theorem wpAny_ge_int {prog : Program} {w : World} {A : Around} {E : Value → Shared → Prop} {s : Shared} {a b : Int} {t u : Tok} {Q : Value → Shared → Prop} (h : Q (.bool (decide (a ≥ b))) s) :
    wpAny (model prog w) A (compareOp .GtE (.int a t) (.int b u)) Q E s := by
  exact P.ge_int h
section
variable (l b : Addr) (n n2 : Nat) (items items2 : Array Value) (u v : W)
theorem llt_cons_eq (a b : Int) (u v : W) : llt (a :: u) (b :: v) = if a == b then llt u v else decide (a < b) := by
  cases h : llt (a :: u) (b :: v) with
  | true =>
    rcases (llt_cons a b u v).mp h with k | ⟨rfl, k⟩
    · have : ¬ a = b := by lia
      simp [this, k]
    · simp [k]
  | false =>
    have hn : ¬ (a < b ∨ (a = b ∧ llt u v = true)) := fun x => by rw [(llt_cons a b u v).mpr x] at h; cases h
    by_cases e : a = b
    · subst e; simp; simpa using hn
    · simp [e]; lia
theorem lt_loop (hu : Ints items.toList u) (hv : Ints items2.toList v) (k : Nat) :
    ∀ i : Nat, u.length - i = k → i ≤ u.length → i ≤ v.length → Meets (Builtin.«list.__eq__.loop» ⟨[.ref l, .ref b, rawInt i, rawInt 0], []⟩)
      (fun _ R s => s.heap.get? l = some { cls := .type "list", dict := none, data := .seq items n, slots := #[] } ∧ s.heap.get? b = some { cls := .type "list", dict := none, data := .seq items2 n2, slots := #[] } ∧
        R (.ok (.ret (.bool (llt (u.drop i) (v.drop i))))) s) := by
  have hz1 : items.size = u.length := by rw [← hu.length]; simp
  have hz2 : items2.size = v.length := by rw [← hv.length]; simp
  induction k with
  | zero =>
    intro i hk hi hj prog w A R s h
    obtain ⟨hp, g, d, tk, os⟩ := s; obtain ⟨hl, hb, h⟩ := h
    wp_walk using wpAny_loadPart' hl, wpAny_loadPart' hb
    have hi1 : items[((i : Nat) : Int).toNat]? = none := by simp; lia
    have hd : u.drop i = [] := by simp; lia
    rw [hd] at h
    rw [hi1]
    wp_walk using wpAny_loadPart' hl, wpAny_loadPart' hb
    show R (.ok (.ret (.bool (decide (items.size < items2.size))))) _
    have : decide (items.size < items2.size) = llt [] (v.drop i) := by
      rw [hz1, hz2]
      by_cases e : v.drop i = []
      · rw [e]; simp at e; simp [llt]; lia
      · rw [llt_nil_left e]; simp at e; simp; lia
    rw [this]; exact h
  | succ k ih =>
    intro i hk hi hj prog w A R s h
    obtain ⟨hp, g, d, tk, os⟩ := s; obtain ⟨hl, hb, h⟩ := h
    wp_walk using wpAny_loadPart' hl, wpAny_loadPart' hb
    have hlt : i < u.length := by lia
    obtain ⟨t1, ht1⟩ := hu.get i hlt
    have hi1 : items[((i : Nat) : Int).toNat]? = some (.int u[i] t1) := by rw [← ht1]; simp
    rw [hi1]
    rw [List.drop_eq_getElem_cons hlt] at h
    by_cases hlt2 : i < v.length
    · obtain ⟨t2, ht2⟩ := hv.get i hlt2
      have hi2 : items2[((i : Nat) : Int).toNat]? = some (.int v[i] t2) := by rw [← ht2]; simp
      rw [hi2]
      rw [List.drop_eq_getElem_cons hlt2, llt_cons_eq] at h
      refine wpAny_bind (wpAny_eqBool_int ?_)
      have hc : ((i : Int) + 1) = ((i + 1 : Nat) : Int) := by push_cast; rfl
      cases hb' : u[i] == v[i] with
      | true =>
        rw [hb'] at h
        wp_walk
        rw [hc]
        exact ⟨plainId_quiet plain_eq_loop _, codeAny_builtin entry_eq_loop (by
          rw [Around.under_plainId plain_eq_loop _]
          exact ih (i + 1) (by lia) (by lia) (by lia) prog w A R _ ⟨hl, hb, by simpa using h⟩)⟩
      | false =>
        rw [hb'] at h
        wp_walk using wpAny_loadPart' hl, wpAny_loadPart' hb
        rw [hi1, hi2]
        refine wpAny_bind (wpAny_lt_int ?_)
        wp_walk
        simpa using h
    · have hi2 : items2[((i : Nat) : Int).toNat]? = none := by simp; lia
      have hd : v.drop i = [] := by simp; lia
      rw [hd] at h
      rw [hi2]
      wp_walk using wpAny_loadPart' hl, wpAny_loadPart' hb
      show R (.ok (.ret (.bool (decide (items.size < items2.size))))) _
      have : decide (items.size < items2.size) = llt (u[i] :: u.drop (i + 1)) [] := by
        rw [hz1, hz2]; simp [llt]; lia
      rw [this]; exact h
theorem ge_loop (hu : Ints items.toList u) (hv : Ints items2.toList v) (k : Nat) :
    ∀ i : Nat, u.length - i = k → i ≤ u.length → i ≤ v.length → Meets (Builtin.«list.__eq__.loop» ⟨[.ref l, .ref b, rawInt i, rawInt 5], []⟩)
      (fun _ R s => s.heap.get? l = some { cls := .type "list", dict := none, data := .seq items n, slots := #[] } ∧ s.heap.get? b = some { cls := .type "list", dict := none, data := .seq items2 n2, slots := #[] } ∧
        R (.ok (.ret (.bool (!llt (u.drop i) (v.drop i))))) s) := by
  have hz1 : items.size = u.length := by rw [← hu.length]; simp
  have hz2 : items2.size = v.length := by rw [← hv.length]; simp
  induction k with
  | zero =>
    intro i hk hi hj prog w A R s h
    obtain ⟨hp, g, d, tk, os⟩ := s; obtain ⟨hl, hb, h⟩ := h
    wp_walk using wpAny_loadPart' hl, wpAny_loadPart' hb
    have hi1 : items[((i : Nat) : Int).toNat]? = none := by simp; lia
    have hd : u.drop i = [] := by simp; lia
    rw [hd] at h
    rw [hi1]
    wp_walk using wpAny_loadPart' hl, wpAny_loadPart' hb
    show R (.ok (.ret (.bool (decide (items.size ≥ items2.size))))) _
    have : decide (items.size ≥ items2.size) = !llt [] (v.drop i) := by
      rw [hz1, hz2]
      by_cases e : v.drop i = []
      · rw [e]; simp at e; simp [llt]; lia
      · rw [llt_nil_left e]; simp at e; simp; lia
    rw [this]; exact h
  | succ k ih =>
    intro i hk hi hj prog w A R s h
    obtain ⟨hp, g, d, tk, os⟩ := s; obtain ⟨hl, hb, h⟩ := h
    wp_walk using wpAny_loadPart' hl, wpAny_loadPart' hb
    have hlt : i < u.length := by lia
    obtain ⟨t1, ht1⟩ := hu.get i hlt
    have hi1 : items[((i : Nat) : Int).toNat]? = some (.int u[i] t1) := by rw [← ht1]; simp
    rw [hi1]
    rw [List.drop_eq_getElem_cons hlt] at h
    by_cases hlt2 : i < v.length
    · obtain ⟨t2, ht2⟩ := hv.get i hlt2
      have hi2 : items2[((i : Nat) : Int).toNat]? = some (.int v[i] t2) := by rw [← ht2]; simp
      rw [hi2]
      rw [List.drop_eq_getElem_cons hlt2, llt_cons_eq] at h
      refine wpAny_bind (wpAny_eqBool_int ?_)
      have hc : ((i : Int) + 1) = ((i + 1 : Nat) : Int) := by push_cast; rfl
      cases hb' : u[i] == v[i] with
      | true =>
        rw [hb'] at h
        wp_walk
        rw [hc]
        exact ⟨plainId_quiet plain_eq_loop _, codeAny_builtin entry_eq_loop (by
          rw [Around.under_plainId plain_eq_loop _]
          exact ih (i + 1) (by lia) (by lia) (by lia) prog w A R _ ⟨hl, hb, by simpa using h⟩)⟩
      | false =>
        rw [hb'] at h
        wp_walk using wpAny_loadPart' hl, wpAny_loadPart' hb
        rw [hi1, hi2]
        refine wpAny_bind (wpAny_ge_int ?_)
        wp_walk
        have hne : ¬ u[i] = v[i] := by simpa using hb'
        have e2 : decide (u[i] ≥ v[i]) = !decide (u[i] < v[i]) := by by_cases e : u[i] < v[i] <;> simp [e] <;> lia
        rw [e2]; simpa using h
    · have hi2 : items2[((i : Nat) : Int).toNat]? = none := by simp; lia
      have hd : v.drop i = [] := by simp; lia
      rw [hd] at h
      rw [hi2]
      wp_walk using wpAny_loadPart' hl, wpAny_loadPart' hb
      show R (.ok (.ret (.bool (decide (items.size ≥ items2.size))))) _
      have : decide (items.size ≥ items2.size) = !llt (u[i] :: u.drop (i + 1)) [] := by
        rw [hz1, hz2]; simp [llt]; lia
      rw [this]; exact h
end

theorem lt_list {prog : Program} {w : World} {A : Around} {E : Value → Shared → Prop} {s : Shared} {Q : Value → Shared → Prop} {l b n n2} {items items2 : Array Value} {u v} (hl : IsL s.heap l items n) (hb : IsL s.heap b items2 n2) (hu : Ints items.toList u) (hv : Ints items2.toList v) (hA : A.units < cLine)
    (h : Q (.bool (llt u v)) s) : wpAny (model prog w) A (compareOp .Lt (.ref l) (.ref b)) Q E s := by
  show wpAny _ _ (richCompare .Lt _ _) Q E s
  refine richCompare_meets_room (op := .Lt) ⟨_, hl, rfl⟩ ⟨_, hb, rfl⟩ F.slot_list_lt F.entry_list_lt (F.args_list_lt_2 _ _) (S := fun _ R s => IsL s.heap l items n ∧ IsL s.heap b items2 n2 ∧ R (.ok (.ret (.bool (llt u v)))) s) ?_ ⟨hl, hb, show Value.bool (llt u v) ≠ Value.notImplemented ∧ Q (.bool (llt u v)) s from ⟨(fun x => nomatch x), h⟩⟩ hA
  intro prog w A R s h
  obtain ⟨hp, g, d, tk, os⟩ := s; obtain ⟨hl, hb, h⟩ := h
  have f3 := AutoSeq1.sub_list_list
  wp_walk using wpAny_loadPart' hl, wpAny_loadPart' hb
  exact ⟨plainId_quiet plain_eq_loop _, codeAny_builtin entry_eq_loop (by
    rw [Around.under_plainId plain_eq_loop _]
    exact lt_loop l b n n2 items items2 u v hu hv _ 0 rfl (Nat.zero_le _) (Nat.zero_le _) prog w A R _ ⟨hl, hb, by simpa using h⟩)⟩
theorem ge_list {prog : Program} {w : World} {A : Around} {E : Value → Shared → Prop} {s : Shared} {Q : Value → Shared → Prop} {l b n n2} {items items2 : Array Value} {u v} (hl : IsL s.heap l items n) (hb : IsL s.heap b items2 n2) (hu : Ints items.toList u) (hv : Ints items2.toList v)
    (h : Q (.bool (!llt u v)) s) : wpAny (model prog w) A (call (.builtin "list.__ge__") [.ref l, .ref b]) Q E s := by
  refine call_meets (T := "list") F.slot_list_ge ⟨_, hl, rfl⟩ F.entry_list_ge (F.args_list_ge_2 _ _) (S := fun _ R s => IsL s.heap l items n ∧ IsL s.heap b items2 n2 ∧ R (.ok (.ret (.bool (!llt u v)))) s) ?_ ⟨hl, hb, h⟩
  intro prog w A R s h
  obtain ⟨hp, g, d, tk, os⟩ := s; obtain ⟨hl, hb, h⟩ := h
  have f3 := AutoSeq1.sub_list_list
  wp_walk using wpAny_loadPart' hl, wpAny_loadPart' hb
  exact ⟨plainId_quiet plain_eq_loop _, codeAny_builtin entry_eq_loop (by
    rw [Around.under_plainId plain_eq_loop _]
    exact ge_loop l b n n2 items items2 u v hu hv _ 0 rfl (Nat.zero_le _) (Nat.zero_le _) prog w A R _ ⟨hl, hb, by simpa using h⟩)⟩
theorem llt_list {prog : Program} {w : World} {A : Around} {E : Value → Shared → Prop} {s : Shared} {Q : Value → Shared → Prop} {l b n n2} {items items2 : Array Value} {u v} (hl : IsL s.heap l items n) (hb : IsL s.heap b items2 n2) (hu : Ints items.toList u) (hv : Ints items2.toList v)
    (h : Q (.bool (llt u v)) s) : wpAny (model prog w) A (call (.builtin "list.__lt__") [.ref l, .ref b]) Q E s := by
  refine call_meets (T := "list") F.slot_list_lt ⟨_, hl, rfl⟩ F.entry_list_lt (F.args_list_lt_2 _ _) (S := fun _ R s => IsL s.heap l items n ∧ IsL s.heap b items2 n2 ∧ R (.ok (.ret (.bool (llt u v)))) s) ?_ ⟨hl, hb, h⟩
  intro prog w A R s h
  obtain ⟨hp, g, d, tk, os⟩ := s; obtain ⟨hl, hb, h⟩ := h
  have f3 := AutoSeq1.sub_list_list
  wp_walk using wpAny_loadPart' hl, wpAny_loadPart' hb
  exact ⟨plainId_quiet plain_eq_loop _, codeAny_builtin entry_eq_loop (by
    rw [Around.under_plainId plain_eq_loop _]
    exact lt_loop l b n n2 items items2 u v hu hv _ 0 rfl (Nat.zero_le _) (Nat.zero_le _) prog w A R _ ⟨hl, hb, by simpa using h⟩)⟩
end Mine
end

section
-- part GA
open PySem PySem.W PyProof.Rows
set_option maxRecDepth 100000
set_option maxHeartbeats 1000000
namespace Mine
section
variable {prog : Program} {w : World} {A : Around} {E : Value → Shared → Prop} {s : Shared} {K : Frag}
theorem ga_list {name : Str} {v : Value} {expr : Bool} {Q : Value → Shared → Prop} (e : findCls [] (.type "list") (.type "type") name = some (.val v)) (hh : handedIn v = true)
    (h : ∀ u, Q v { s with toks := u }) : wpAny (model prog w) A (getAttr (.type "list") name expr) Q E s := by
  have X : Frag.In [] s.heap := fun a o e => by cases e
  have hstub : opaqueClassAbove (.type "list") = pure none := by unfold opaqueClassAbove; dsimp only; rw [show Manifest.isStub "list" = false by decide +kernel]; rfl
  have ht : typeOf (.type "list") = pure (.type "type") := by first | rfl | kernel_rfl
  have L0 : Looks (model prog w) s.heap (typeOf (.type "list")) (.type "type") := Looks.of_pure ht
  have LO : Looks (model prog w) s.heap (opaqueClassAbove (.type "list")) none := Looks.of_pure hstub
  have hg : findIn [] (.type "type") "__getattribute__" = some (some (.builtin "type.__getattribute__")) := type_tga
  refine cls_open X LO L0 hg (looks_hook X (r := none) (by rfl)) (by show subIn [] _ _ = _; rfl) e ?_
  exact wpAny_pure (handed_on hh (h _))
theorem ga_ge {expr : Bool} {Q : Value → Shared → Prop} (h : ∀ u, Q (.builtin "list.__ge__") { s with toks := u }) : wpAny (model prog w) A (getAttr (.type "list") (Str.ofString "__ge__") expr) Q E s := ga_list (by kernel_rfl) (by decide +kernel) h
theorem ga_lt {expr : Bool} {Q : Value → Shared → Prop} (h : ∀ u, Q (.builtin "list.__lt__") { s with toks := u }) : wpAny (model prog w) A (getAttr (.type "list") (Str.ofString "__lt__") expr) Q E s := ga_list (by kernel_rfl) (by decide +kernel) h
end
end Mine
end

section
-- part U1
open PySem PySem.W PyProof.Rows
set_option maxRecDepth 100000
set_option maxHeartbeats 1000000
namespace Mine
def stk (es : Array DictEntry) : Bool := es.all fun e => match e.key with | .str .. => true | _ => false
theorem stk_ok {es : Array DictEntry} (h : stk es = true) : StrKeys es := fun e he => by
  have := (Array.all_eq_true_iff_forall_mem.mp h) e he
  split at this
  · rename_i n t hn; exact ⟨n, t, hn⟩
  · cases this
noncomputable def objAt (p : Params) (a : Addr) : Obj := (List.lookup a (KT p)).getD default
noncomputable def entriesOf (p : Params) (a : Addr) : Array DictEntry := match (objAt p a).data with | .dict es _ => es | _ => #[]
noncomputable def epOf (p : Params) (a : Addr) : Nat := match (objAt p a).data with | .dict _ ep => ep | _ => 0
noncomputable def mgl (p : Params) := nsFind (entriesOf p 3)
noncomputable def mbl (p : Params) := nsFind (entriesOf p 0)
section
variable {prog : Program} {w : World} {A : Around} {E : Value → Shared → Prop} {h : Heap} {g : Array GenState} {d : Drawn} {t : Nat} {os : OsState} {M : Model} {env : Env} {s : Shared}
theorem gNs (KX : Frag.In (KT w.params) h) : h.Ns 3 (mgl w.params) :=
  ⟨objAt w.params 3, entriesOf w.params 3, epOf w.params 3, KX 3 _ (show List.lookup 3 (KT w.params) = some (objAt w.params 3) by kernel_rfl), (show (objAt w.params 3).data = .dict (entriesOf w.params 3) (epOf w.params 3) by kernel_rfl), stk_ok (show stk (entriesOf w.params 3) = true by kernel_rfl), fun _ => rfl⟩
theorem bNs (KX : Frag.In (KT w.params) h) : h.Ns 0 (mbl w.params) :=
  ⟨objAt w.params 0, entriesOf w.params 0, epOf w.params 0, KX 0 _ (show List.lookup 0 (KT w.params) = some (objAt w.params 0) by kernel_rfl), (show (objAt w.params 0).data = .dict (entriesOf w.params 0) (epOf w.params 0) by kernel_rfl), stk_ok (show stk (entriesOf w.params 0) = true by kernel_rfl), fun _ => rfl⟩
theorem noLim (KX : Frag.In (KT w.params) h) : h.NoLimit :=
  ⟨nsFind #[], ⟨{ cls := .none, data := .dict #[] }, #[], 0, KX 2 _ (by kernel_rfl), rfl, (fun e he => by simp at he), fun _ => rfl⟩, rfl⟩
noncomputable def fdOf (p : Params) (a : Addr) : FuncData := match (objAt p a).data with | .func fd => fd | _ => default
/-- the environment of a call of the function at a -/
structure EI (p : Params) (a L : Addr) (env : Env) : Prop where
  kd : env.scope.kind = .function
  gs : env.globals = 3
  bs : env.builtins = 0
  lo : env.locals = L
  ko : ∀ {x : Str} {k : NameKind}, (fdOf p a).scope.names.lookup x = some k → env.kindOf x = some k
  co : env.code = (fdOf p a).code
  qu : env.qual = (fdOf p a).qualname ++ ".<locals>."
theorem nm_loc {x : Str} {pos : Pos} {m} {v : Value} {a L : Addr} {Q : Value → Shared → Prop} (F : s.heap.Ns L m) (I : EI w.params a L env) (hv : m x = some v) (h : Q v s)
    (hl : (fdOf w.params a).scope.names.lookup x = some .local) (hd : (x == ("__debug__" : Str)) = false) :
    wpAny M A (eval (.Name x pos) env) Q E s := wpAny_Name (wpAny_loadName_local I.kd (I.ko hl) (I.lo.symm ▸ F) hv h) hd
theorem nm_glob {x : Str} {pos : Pos} {v : Value} {a L : Addr} {Q : Value → Shared → Prop} (KX : Frag.In (KT w.params) s.heap) (I : EI w.params a L env) (hv : mgl w.params x = some v) (h : Q v s)
    (hx : (fdOf w.params a).scope.names.lookup x = some .globalImplicit) (hd : (x == ("__debug__" : Str)) = false) :
    wpAny M A (eval (.Name x pos) env) Q E s := Calls.Name_function_global I.kd (I.ko hx) (Calls.loadGlobal_global (I.gs ▸ gNs KX) hv h) hd
theorem nm_built {x : Str} {pos : Pos} {v : Value} {a L : Addr} {Q : Value → Shared → Prop} (KX : Frag.In (KT w.params) s.heap) (I : EI w.params a L env) (hm : mgl w.params x = none) (hv : mbl w.params x = some v) (h : Q v s)
    (hx : (fdOf w.params a).scope.names.lookup x = some .globalImplicit) (hd : (x == ("__debug__" : Str)) = false) :
    wpAny M A (eval (.Name x pos) env) Q E s := Calls.Name_function_global I.kd (I.ko hx) (Calls.loadGlobal_builtin (I.gs ▸ gNs KX) hm (I.bs ▸ bNs KX) hv h) hd
theorem stl {x : Str} {v : Value} {m} {a L : Addr} {Q : Unit → Shared → Prop} (F : h.Ns L m) (I : EI w.params a L env)
    (hq : ∀ h', h'.Ns L (fun y => if y = x then some v else m y) → Heap.SameBut L h h' → Q () ⟨h', g, d, t + 1, os⟩)
    (hl : (fdOf w.params a).scope.names.lookup x = some .local) :
    wpAny M A (storeName env x v) Q E ⟨h, g, d, t, os⟩ := by
  have e := I.lo
  subst e
  exact wpAny_storeName_local (I.ko hl) F (fun h' hn hs => hq h' hn hs) (by rw [I.kd]; rfl)
theorem fcall {a : Addr} {body : List Stmt} {args : List Value} {binds : List (Str × Value)} {Q : Value → Shared → Prop} (KX : Frag.In (KT w.params) h)
   (ho : List.lookup a (KT w.params) = some { cls := .type "function", data := .func (fdOf w.params a) }) (hroom : A.depth < recursionLimit) (hcd : h.CodeRec (fdOf w.params a).code (fdOf w.params a).qualname)
   (hbody : (fdOf w.params a).body = .stmts body) (hbind : BindsTo ⟨h, g, d, t, os⟩ (fdOf w.params a) ⟨args, []⟩ binds)
   (hloc : binds.all (fun x => decide ((fdOf w.params a).scope.names.lookup x.1 = some .local)) = true) (hcell : (fdOf w.params a).scope.names.all (fun x => x.2 != .cell) = true) (hk : (fdOf w.params a).scope.kind = .function)
   (hco : (fdOf w.params a).scope.isCoroutine = false) (hgen : (fdOf w.params a).scope.isGenerator = false) (hg : (fdOf w.params a).globals = 3) (hb : (fdOf w.params a).builtins = 0)
   (hq : ∀ h₁ L, h₁.Ns L (fun x => binds.reverse.lookup x) → (∀ b o, h.get? b = some o → h₁.get? b = some o) → h.get? L = none → h.objs.size ≤ L → ∀ t' env, EI w.params a L env →
     wpAny (model prog w) (A.deeper env) (execs body env) (fun f s' => Q (match f with | .ret v => v | _ => .none) s') (fun _ _ => False) ⟨h₁, g, d, t', os⟩) :
   wpAny (model prog w) A (call (.ref a) args) Q E ⟨h, g, d, t, os⟩ := by
  refine wpAny_call (codeAny_call_function hroom (KX a _ ho) rfl hco hgen hbody hcd ?_)
  refine hbind _ _ _ _ (wpAny_newFunctionEnv (fun x hx => by simpa using List.all_eq_true.mp hcell x hx) (locs hloc) (fun h₁ hns hsb => ⟨(noLim KX).fresh _ hsb, ?_⟩) hk)
  refine codeAny_func (wpAny_mono (hq h₁ h.objs.size hns (fun b o e => hsb.extBut b o (Nat.ne_of_lt (Heap.lt_size e)) (Heap.get?_push_of_some _ e)) (Heap.get?_none_of_le (Nat.le_refl _)) (Nat.le_refl _) _ _ ⟨hk, hg, hb, rfl, fun e => e, rfl, rfl⟩) (fun _ _ x => x) fun _ _ z => z.elim)
end
end Mine
end

section
-- part U2
open PySem PySem.W PyProof.Rows
set_option maxRecDepth 100000
set_option maxHeartbeats 4000000
namespace Mine
theorem gl_lfg (p : Params) : mgl p (Str.ofString "_lt_from_ge") = some (.ref 28) := by kernel_rfl
theorem gl_gfl (p : Params) : mgl p (Str.ofString "_ge_from_lt") = some (.ref 21) := by kernel_rfl
theorem gl_ctk (p : Params) : mgl p (Str.ofString "cmp_to_key") = some (.ref 35) := by kernel_rfl
theorem gl_red (p : Params) : mgl p (Str.ofString "reduce") = some (.ref 44) := by kernel_rfl
theorem gl_join (p : Params) : mgl p (Str.ofString "_law_join") = some (.ref 51) := by kernel_rfl
theorem gl_cut (p : Params) : mgl p (Str.ofString "_law_cut") = some (.ref 58) := by kernel_rfl
theorem gl_endl (p : Params) : mgl p (Str.ofString "_law_endless") = some (.ref 65) := by kernel_rfl
theorem gl_turns (p : Params) : mgl p (Str.ofString "_law_turns") = some (.ref 72) := by kernel_rfl
theorem gl_ends (p : Params) : mgl p (Str.ofString "_law_ends") = some (.ref 77) := by kernel_rfl
theorem gl_back (p : Params) : mgl p (Str.ofString "_law_back") = some (.ref 84) := by kernel_rfl
theorem gl_miss (p : Params) : mgl p (Str.ofString "_initial_missing") = some (.ref 36) := by kernel_rfl
theorem gm_type (p : Params) : mgl p (Str.ofString "type") = none := by kernel_rfl
theorem gb_type (p : Params) : mbl p (Str.ofString "type") = some (.type "type") := by kernel_rfl
theorem gm_ni (p : Params) : mgl p (Str.ofString "NotImplemented") = none := by kernel_rfl
theorem gb_ni (p : Params) : mbl p (Str.ofString "NotImplemented") = some .notImplemented := by kernel_rfl
theorem gm_iter (p : Params) : mgl p (Str.ofString "iter") = none := by kernel_rfl
theorem gb_iter (p : Params) : mbl p (Str.ofString "iter") = some (.builtin "iter") := by kernel_rfl
theorem gm_len (p : Params) : mgl p (Str.ofString "len") = none := by kernel_rfl
theorem gb_len (p : Params) : mbl p (Str.ofString "len") = some (.builtin "len") := by kernel_rfl
theorem gm_range (p : Params) : mgl p (Str.ofString "range") = none := by kernel_rfl
theorem gb_range (p : Params) : mbl p (Str.ofString "range") = some (.type "range") := by kernel_rfl
theorem gm_list (p : Params) : mgl p (Str.ofString "list") = none := by kernel_rfl
theorem gb_list (p : Params) : mbl p (Str.ofString "list") = some (.type "list") := by kernel_rfl
theorem gm_sorted (p : Params) : mgl p (Str.ofString "sorted") = none := by kernel_rfl
theorem gb_sorted (p : Params) : mbl p (Str.ofString "sorted") = some (.builtin "sorted") := by kernel_rfl
theorem gm_sum (p : Params) : mgl p (Str.ofString "sum") = none := by kernel_rfl
theorem gb_sum (p : Params) : mbl p (Str.ofString "sum") = some (.builtin "sum") := by kernel_rfl
theorem gm_object (p : Params) : mgl p (Str.ofString "object") = none := by kernel_rfl
theorem gb_object (p : Params) : mbl p (Str.ofString "object") = some (.type "object") := by kernel_rfl
end Mine
end

section
-- part U3
open PySem PySem.W PyProof.Rows
set_option maxRecDepth 100000
set_option maxHeartbeats 1000000
namespace Mine
abbrev po (l c : Nat) : Pos := { line := l, col := c, endLine := 0, endCol := 0 }
theorem among_po (p : Pos) (l : List Value) : codeAmong p l = codeAmong (po p.line p.col) l := by
  fun_induction codeAmong p l with
  | case1 line t col u c rest h => simp [codeAmong, po] at h ⊢; simp [h]
  | case2 line t col u c rest h ih => rw [ih]; simp [codeAmong, po] at h ⊢; intro a b; exact absurd b (h a)
  | case3 l h => unfold codeAmong; split
                 · exact absurd rfl (h _ _ _ _ _ _)
                 · rfl
def kMeth : List (Nat × Str) := [(18, "cmp_to_key.<locals>.K.__init__"), (21, "cmp_to_key.<locals>.K.__lt__"), (24, "cmp_to_key.<locals>.K.__gt__"), (27, "cmp_to_key.<locals>.K.__eq__"), (30, "cmp_to_key.<locals>.K.__le__"), (33, "cmp_to_key.<locals>.K.__ge__")]
def CT (h : Heap) (c P : Addr) (ps : Array Value) : Prop := h.IsCode c P ps ∧ h.TableAt c P ps
def CR (h : Heap) (c : Addr) (q : Str) : Prop := ∃ o vs t, h.get? c = some o ∧ o.cls = .type "code" ∧ o.data = .fields vs ∧ vs[1]? = some (.str q t)
theorem CR.rec {h : Heap} {c q} (x : CR h c q) : h.CodeRec (.ref c) q := let ⟨o, vs, t, a, _, b, e⟩ := x; ⟨c, o, vs, t, rfl, a, b, e⟩
def isTab (b : Addr) : Prop := b = 30 ∨ b = 79 ∨ b = 86
def KCode (h : Heap) (c : Addr) : Prop := ∃ P ps, ¬ isTab P ∧ CT h c P ps ∧ ∀ q ∈ kMeth, ∃ m, codeAmong (po q.1 8) ps.toList = some (.ref m) ∧ CR h m q.2
def Tab (h : Heap) (c P : Addr) (l k : Nat) (G : Heap → Addr → Prop) : Prop := ∃ ps, CT h c P ps ∧ (ps = #[] ∨ ∃ c', ps = #[rawInt l, rawInt k, .ref c'] ∧ G h c')
structure Tb (h : Heap) : Prop where
  t30 : Tab h 34 30 14 4 KCode
  t79 : Tab h 83 79 81 58 fun h c => CR h c "_law_back.<locals>.<lambda>"
  t86 : Tab h 88 86 102 34 fun h c => CR h c "law.<locals>.<lambda>"
/-- the codes and their tables are kept -/
def Nd (h h' : Heap) : Prop := ∀ b o, h.get? b = some o → (∃ vs, o.data = .fields vs) → (o.cls = .type "code" ∨ o.cls = .none) → h'.get? b = some o
theorem Nd.ct {h h' : Heap} (k : Nd h h') {c P ps} (x : CT h c P ps) : CT h' c P ps := by
  obtain ⟨⟨o, vs, file, tf, flags, tg, inF, text, tt, op, a, r1, r2, r3, r4, r5, r6, b, r, rr⟩, ⟨o', vs', a', b', r', rr'⟩, t⟩ := x
  rw [a] at a'; cases a'
  rw [t] at b; cases b
  exact ⟨⟨o, vs, file, tf, flags, tg, inF, text, tt, _, k _ _ a ⟨_, r1⟩ (.inl b'), r1, r2, r3, r4, r5, r6, k _ _ t ⟨_, rfl⟩ (.inr rfl), r, rr⟩, ⟨o, vs', k _ _ a ⟨_, r1⟩ (.inl b'), b', r', rr'⟩, k _ _ t ⟨_, rfl⟩ (.inr rfl)⟩
theorem Nd.cr {h h' : Heap} (k : Nd h h') {c q} (x : CR h c q) : CR h' c q := by
  obtain ⟨o, vs, t, a, b, d, e⟩ := x
  exact ⟨o, vs, t, k _ _ a ⟨_, d⟩ (.inl b), b, d, e⟩
theorem Nd.tab {h h' : Heap} (k : Nd h h') {c P l n G} (hg : ∀ c, G h c → G h' c) (x : Tab h c P l n G) : Tab h' c P l n G := by
  obtain ⟨ps, a, r⟩ := x
  refine ⟨ps, k.ct a, r.imp id ?_⟩
  rintro ⟨c', e, g⟩
  exact ⟨c', e, hg _ g⟩
theorem Nd.kcode {h h' : Heap} (k : Nd h h') {c} (x : KCode h c) : KCode h' c := by
  obtain ⟨P, ps, nt, b, e⟩ := x
  exact ⟨P, ps, nt, k.ct b, fun q hq => let ⟨m, x, y⟩ := e q hq; ⟨m, x, k.cr y⟩⟩
theorem Tb.nd {h h' : Heap} (T : Tb h) (k : Nd h h') : Tb h' := ⟨k.tab (fun _ => k.kcode) T.t30, k.tab (fun _ => k.cr) T.t79, k.tab (fun _ => k.cr) T.t86⟩
theorem Tb.none {h : Heap} (T : Tb h) {b : Addr} (hb : isTab b) : ∃ vs, h.get? b = some { cls := .none, data := .fields vs } := by
  rcases hb with rfl | rfl | rfl
  · obtain ⟨ps, b, _⟩ := T.t30; exact ⟨ps, b.2.2⟩
  · obtain ⟨ps, b, _⟩ := T.t79; exact ⟨ps, b.2.2⟩
  · obtain ⟨ps, b, _⟩ := T.t86; exact ⟨ps, b.2.2⟩
theorem Tb.fields {h : Heap} (T : Tb h) {b : Addr} (hb : isTab b) : ∃ o vs, h.get? b = some o ∧ o.data = .fields vs := by
  rcases hb with rfl | rfl | rfl
  · obtain ⟨ps, b, _⟩ := T.t30; exact ⟨_, ps, b.2.2, rfl⟩
  · obtain ⟨ps, b, _⟩ := T.t79; exact ⟨_, ps, b.2.2, rfl⟩
  · obtain ⟨ps, b, _⟩ := T.t86; exact ⟨_, ps, b.2.2, rfl⟩
/-- what a call keeps -/
def Evo (h h' : Heap) : Prop := (∀ b o, h.get? b = some o → ¬ isTab b → h'.get? b = some o) ∧ h.objs.size ≤ h'.objs.size
theorem Evo.rfl' (h : Heap) : Evo h h := ⟨fun _ _ e _ => e, Nat.le_refl _⟩
theorem Evo.trans {a b c : Heap} (x : Evo a b) (y : Evo b c) : Evo a c := ⟨fun i o e n => y.1 i o (x.1 i o e n) n, Nat.le_trans x.2 y.2⟩
theorem Evo.of {h h' : Heap} (k : ∀ b o, h.get? b = some o → h'.get? b = some o) (s : h.objs.size ≤ h'.objs.size) : Evo h h' := ⟨fun b o e _ => k b o e, s⟩
def Kp (o : Obj) : Prop := (∀ es n, o.data ≠ .dict es n) ∧ (o.cls ≠ .none ∨ ∀ vs, o.data ≠ .fields vs)
/-- the objects within Z are kept, but for dicts and tables of codes -/
def Lk (Z : Addr → Prop) (h h' : Heap) : Prop := ∀ b o, Z b → h.get? b = some o → Kp o → h'.get? b = some o
theorem Lk.evo {Z : Addr → Prop} {h h' : Heap} (T : Tb h) (e : Evo h h') : Lk Z h h' := fun b o _ g hd => e.1 b o g fun ht => by
  obtain ⟨vs, g'⟩ := T.none ht
  rw [g] at g'; cases g'
  exact hd.2.elim (fun x => x rfl) fun x => x _ rfl
theorem Kp.list {items n} : Kp { cls := .type "list", dict := none, data := .seq items n, slots := #[] } := ⟨(fun _ _ e => nomatch e), .inl fun e => nomatch e⟩
def Wd (Z : Addr → Prop) (h : Heap) (u : W) (l : Addr) : Prop := Z l ∧ ∃ items n, IsL h l items n ∧ Ints items.toList u
theorem Wd.lk {Z : Addr → Prop} {h h' : Heap} {u : W} {l : Addr} (k : Lk Z h h') (x : Wd Z h u l) : Wd Z h' u l := let ⟨z, items, n, a, b⟩ := x; ⟨z, items, n, k _ _ z a .list, b⟩
inductive Items (Z : Addr → Prop) (h : Heap) : List W → List Value → Prop
  | nil : Items Z h [] []
  | cons {u us l ls} (x : Wd Z h u l) (xs : Items Z h us ls) : Items Z h (u :: us) (.ref l :: ls)
theorem Items.lk {Z : Addr → Prop} {h h' : Heap} {us ls} (k : Lk Z h h') (x : Items Z h us ls) : Items Z h' us ls := by
  induction x with
  | nil => exact .nil
  | cons a _ ih => exact .cons (a.lk k) ih
def Wds (Z : Addr → Prop) (h : Heap) (us : List W) (l : Addr) : Prop := Z l ∧ ∃ items n, IsL h l items n ∧ Items Z h us items.toList
theorem Wds.lk {Z : Addr → Prop} {h h' : Heap} {us} {l : Addr} (k : Lk Z h h') (x : Wds Z h us l) : Wds Z h' us l := let ⟨z, items, n, a, b⟩ := x; ⟨z, items, n, k _ _ z a .list, b.lk k⟩
theorem Wd.imp {Z Z' : Addr → Prop} {h : Heap} {u : W} {l : Addr} (hz : ∀ b o, Z b → h.get? b = some o → Z' b) (x : Wd Z h u l) : Wd Z' h u l := let ⟨z, items, n, a, b⟩ := x; ⟨hz _ _ z a, items, n, a, b⟩
theorem Items.imp {Z Z' : Addr → Prop} {h : Heap} {us ls} (hz : ∀ b o, Z b → h.get? b = some o → Z' b) (x : Items Z h us ls) : Items Z' h us ls := by
  induction x with
  | nil => exact .nil
  | cons a _ ih => exact .cons (a.imp hz) ih
theorem Wds.imp {Z Z' : Addr → Prop} {h : Heap} {us} {l : Addr} (hz : ∀ b o, Z b → h.get? b = some o → Z' b) (x : Wds Z h us l) : Wds Z' h us l := let ⟨z, items, n, a, b⟩ := x; ⟨hz _ _ z a, items, n, a, b.imp hz⟩
structure Gd (p : Params) (h : Heap) : Prop where
  k : Frag.In (KT p) h
  t : Tb h
theorem lookup_filter {α : Type} (f : Addr → Bool) (l : List (Addr × α)) {b : Addr} {o : α} (e : List.lookup b (l.filter fun x => f x.1) = some o) : f b = true := by
  induction l with
  | nil => cases e
  | cons x l ih =>
    rw [List.filter_cons] at e
    split at e
    · rename_i hx
      rw [List.lookup_cons] at e
      split at e
      · rename_i hb; rw [eq_of_beq hb]; exact hx
      · exact ih e
    · exact ih e
theorem kt_tab (p : Params) {b : Addr} {o : Obj} (e : List.lookup b (KT p) = some o) : ¬ isTab b := by
  have := lookup_filter (fun b => b != 30 && b != 79 && b != 86) (K0 p) e
  rintro (rfl | rfl | rfl) <;> simp at this
theorem Gd.evo {p : Params} {h h' : Heap} (G : Gd p h) (e : Evo h h') (T : Tb h') : Gd p h' := ⟨fun b o x => e.1 b o (G.k b o x) (kt_tab p x), T⟩
/-- within a call -/
structure Fx (p : Params) (Z : Addr → Prop) (h₀ : Heap) (L : Addr) (h : Heap) (m : Str → Option Value) : Prop where
  ns : h.Ns L m
  k0 : Frag.In (KT p) h₀
  tb : Tb h
  ev : Evo h₀ h
  lo : h₀.get? L = none
  ls : h₀.objs.size ≤ L
  za : ∃ c, (c = L ∨ ∃ items n, IsL h c items n) ∧ ∀ b, c < b → Z b
theorem Fx.zf {p Z h₀ L h m} (F : Fx p Z h₀ L h m) : ∀ b, h.objs.size ≤ b → Z b := fun b hb => by
  obtain ⟨c, hc, hz⟩ := F.za
  refine hz b (Nat.lt_of_lt_of_le ?_ hb)
  rcases hc with rfl | ⟨items, n, x⟩
  · exact F.ns.lt
  · exact Heap.lt_size x
theorem kp_list {items n} : Kp { cls := .type "list", dict := none, data := .seq items n, slots := #[] } := ⟨(fun _ _ e => nomatch e), .inl fun e => nomatch e⟩
theorem Fx.kx {p Z h₀ L h m} (F : Fx p Z h₀ L h m) : Frag.In (KT p) h := fun b o e => F.ev.1 b o (F.k0 b o e) (kt_tab p e)
theorem Fx.gd {p Z h₀ L h m} (F : Fx p Z h₀ L h m) : Gd p h := ⟨F.kx, F.tb⟩
theorem Fx.evo {p Z h₀ L h m h'} (e : Evo h h') (T : Tb h') (F : Fx p Z h₀ L h m) : Fx p Z h₀ L h' m ∧ Lk Z h h' := by
  refine ⟨⟨?_, F.k0, T, F.ev.trans e, F.lo, F.ls, ?_⟩, Lk.evo F.tb e⟩
  rotate_left
  · obtain ⟨c, hc, hz⟩ := F.za
    refine ⟨c, hc.imp id ?_, hz⟩
    rintro ⟨items, n, x⟩
    exact ⟨items, n, Lk.evo (Z := fun _ => True) F.tb e _ _ trivial x kp_list⟩
  obtain ⟨o, es, n, a, b, r⟩ := F.ns
  refine ⟨o, es, n, e.1 _ _ a fun ht => ?_, b, r⟩
  obtain ⟨o', vs, g', d⟩ := F.tb.fields ht
  rw [a] at g'; cases g'; rw [b] at d; cases d
theorem Fx.keep {p Z h₀ L h m h'} (k : ∀ b o, h.get? b = some o → h'.get? b = some o) (hs : h.objs.size ≤ h'.objs.size) (F : Fx p Z h₀ L h m) : Fx p Z h₀ L h' m ∧ Lk Z h h' :=
  F.evo (.of k hs) (F.tb.nd fun b o e _ _ => k b o e)
theorem Fx.push {p Z h₀ L h m} (o : Obj) (F : Fx p Z h₀ L h m) : Fx p Z h₀ L (h.push o) m ∧ Lk Z h (h.push o) :=
  F.keep (fun _ _ e => Heap.get?_push_of_some o e) (by simp [Heap.size_push])
theorem Fx.set {p Z h₀ L h m m' h'} (hn : h'.Ns L m') (hb : Heap.SameBut L h h') (hs : h.objs.size ≤ h'.objs.size) (F : Fx p Z h₀ L h m) : Fx p Z h₀ L h' m' ∧ Lk Z h h' := by
  obtain ⟨oL, es, n, a, b, r⟩ := F.ns
  refine ⟨⟨hn, F.k0, F.tb.nd fun b' o e hd _ => ?_, ⟨fun b' o e ht => ?_, Nat.le_trans F.ev.2 hs⟩, F.lo, F.ls, ?_⟩, fun b' o _ e hd => ?_⟩
  rotate_left 2
  · obtain ⟨c, hc, hz⟩ := F.za
    refine ⟨c, hc.imp id ?_, hz⟩
    rintro ⟨items, n, x⟩
    refine ⟨items, n, hb.extBut _ _ ?_ x⟩
    rintro rfl; have q := x.symm.trans a; injection q with q; subst q; cases b
  rotate_right 2
  · refine hb.extBut _ _ ?_ e
    rintro rfl; rw [a] at e; cases e; obtain ⟨vs, hd⟩ := hd; rw [b] at hd; cases hd
  · refine hb.extBut _ _ ?_ (F.ev.1 _ _ e ht)
    rintro rfl; rw [F.lo] at e; cases e
  · refine hb.extBut _ _ ?_ e
    rintro rfl; rw [a] at e; cases e; exact hd.1 _ _ b
/-- a list or an iterator of one's own is changed -/
def Ls (Z : Addr → Prop) (x : Addr) (h h' : Heap) : Prop := ∀ b o, b ≠ x → Z b → h.get? b = some o → Kp o → h'.get? b = some o
theorem Fx.upd {p Z h₀ L h m h' x o} (hx : h.get? x = some o) (h0 : h₀.get? x = none) (hd : ∀ es n, o.data ≠ .dict es n) (hl : ∀ vs n, o.data ≠ .seq vs n)
    (hc : o.cls ≠ .type "code" ∧ o.cls ≠ .none) (hb : Heap.ExtBut x h h') (F : Fx p Z h₀ L h m) : Fx p Z h₀ L h' m ∧ Ls Z x h h' := by
  obtain ⟨oL, es, n, a, b, r⟩ := F.ns
  have hLx : L ≠ x := by rintro rfl; rw [a] at hx; cases hx; exact hd _ _ b
  have hN : h'.Ns L m := ⟨oL, es, n, hb _ _ hLx a, b, r⟩
  have hs : h₀.objs.size ≤ h'.objs.size := Nat.le_of_lt (Nat.lt_of_le_of_lt F.ls hN.lt)
  refine ⟨⟨hN, F.k0, F.tb.nd fun b' o' e _ hcl => ?_, ⟨fun b' o' e ht => ?_, hs⟩, F.lo, F.ls, ?_⟩, fun b' o' ne z e hd' => hb _ _ ne e⟩
  · refine hb _ _ ?_ e
    rintro rfl; rw [hx] at e; cases e; rcases hcl with h1 | h1
    · exact hc.1 h1
    · exact hc.2 h1
  · refine hb _ _ ?_ (F.ev.1 _ _ e ht)
    rintro rfl; rw [h0] at e; cases e
  · obtain ⟨c, hc', hz⟩ := F.za
    refine ⟨c, hc'.imp id ?_, hz⟩
    rintro ⟨items, n, y⟩
    refine ⟨items, n, hb _ _ ?_ y⟩
    rintro rfl; have q := y.symm.trans hx; injection q with q; subst q; exact hl _ _ rfl
end Mine
end

section
-- part U4
open PySem PySem.W PyProof.Rows
set_option maxRecDepth 100000
set_option maxHeartbeats 1000000
namespace Mine
section
variable {prog : Program} {w : World} {A : Around} {E : Value → Shared → Prop} {h : Heap} {g : Array GenState} {d : Drawn} {t : Nat} {os : OsState} {env : Env} {Z : Addr → Prop} {h₀ : Heap} {L : Addr} {m : Str → Option Value}
theorem nmL {M : Model} {x : Str} {pos : Pos} {v : Value} {a : Addr} {Q : Value → Shared → Prop} (F : Fx w.params Z h₀ L h m) (I : EI w.params a L env) (hv : m x = some v) (hq : Q v ⟨h, g, d, t, os⟩)
    (hl : (fdOf w.params a).scope.names.lookup x = some .local) (hd : (x == ("__debug__" : Str)) = false) :
    wpAny M A (eval (.Name x pos) env) Q E ⟨h, g, d, t, os⟩ := nm_loc (s := ⟨h, g, d, t, os⟩) F.ns I hv hq hl hd
theorem nmG {M : Model} {x : Str} {pos : Pos} {v : Value} {a : Addr} {Q : Value → Shared → Prop} (F : Fx w.params Z h₀ L h m) (I : EI w.params a L env) (hv : mgl w.params x = some v) (hq : Q v ⟨h, g, d, t, os⟩)
    (hx : (fdOf w.params a).scope.names.lookup x = some .globalImplicit) (hd : (x == ("__debug__" : Str)) = false) :
    wpAny M A (eval (.Name x pos) env) Q E ⟨h, g, d, t, os⟩ := nm_glob (s := ⟨h, g, d, t, os⟩) F.kx I hv hq hx hd
theorem nmB {M : Model} {x : Str} {pos : Pos} {v : Value} {a : Addr} {Q : Value → Shared → Prop} (F : Fx w.params Z h₀ L h m) (I : EI w.params a L env) (hm : mgl w.params x = none) (hv : mbl w.params x = some v) (hq : Q v ⟨h, g, d, t, os⟩)
    (hx : (fdOf w.params a).scope.names.lookup x = some .globalImplicit) (hd : (x == ("__debug__" : Str)) = false) :
    wpAny M A (eval (.Name x pos) env) Q E ⟨h, g, d, t, os⟩ := nm_built (s := ⟨h, g, d, t, os⟩) F.kx I hm hv hq hx hd
theorem stF {M : Model} {x : Str} {v : Value} {a : Addr} {Q : Unit → Shared → Prop} (F : Fx w.params Z h₀ L h m) (I : EI w.params a L env)
    (hq : ∀ h', Fx w.params Z h₀ L h' (fun y => if y = x then some v else m y) → Lk Z h h' → Q () ⟨h', g, d, t + 1, os⟩)
    (hl : (fdOf w.params a).scope.names.lookup x = some .local) :
    wpAny M A (storeName env x v) Q E ⟨h, g, d, t, os⟩ :=
  stl F.ns I (fun h' hn hs => let ⟨F', k⟩ := F.set hn hs (Nat.le_of_eq hs.1.symm); hq h' F' k) hl
theorem fcallF {a : Addr} {body : List Stmt} {args : List Value} {binds : List (Str × Value)} {Q : Value → Shared → Prop} (G : Gd w.params h) (hz : ∀ b, h.objs.size ≤ b → Z b)
   (ho : List.lookup a (KT w.params) = some { cls := .type "function", data := .func (fdOf w.params a) }) (hroom : A.depth < recursionLimit) (hcd : h.CodeRec (fdOf w.params a).code (fdOf w.params a).qualname)
   (hbody : (fdOf w.params a).body = .stmts body) (hbind : BindsTo ⟨h, g, d, t, os⟩ (fdOf w.params a) ⟨args, []⟩ binds)
   (hloc : binds.all (fun x => decide ((fdOf w.params a).scope.names.lookup x.1 = some .local)) = true) (hcell : (fdOf w.params a).scope.names.all (fun x => x.2 != .cell) = true) (hk : (fdOf w.params a).scope.kind = .function)
   (hco : (fdOf w.params a).scope.isCoroutine = false) (hgen : (fdOf w.params a).scope.isGenerator = false) (hg : (fdOf w.params a).globals = 3) (hb : (fdOf w.params a).builtins = 0)
   (hq : ∀ h₁ L, Fx w.params Z h L h₁ (fun x => binds.reverse.lookup x) → Lk Z h h₁ → ∀ t' env, EI w.params a L env →
     wpAny (model prog w) (A.deeper env) (execs body env) (fun f s' => Q (match f with | .ret v => v | _ => .none) s') (fun _ _ => False) ⟨h₁, g, d, t', os⟩) :
   wpAny (model prog w) A (call (.ref a) args) Q E ⟨h, g, d, t, os⟩ := by
  refine fcall G.k ho hroom hcd hbody hbind hloc hcell hk hco hgen hg hb fun h₁ L N K hL hs t' env I => ?_
  have hsz : h.objs.size ≤ h₁.objs.size := Nat.le_of_lt (Nat.lt_of_le_of_lt hs N.lt)
  exact hq h₁ L ⟨N, G.k, G.t.nd fun b o e _ _ => K b o e, .of K hsz, hL, hs, L, .inl rfl, fun b hb => hz b (Nat.le_trans hs (Nat.le_of_lt hb))⟩ (fun b o _ e _ => K b o e) t' env I
/-! lists -/
theorem Wd.new (hz : ∀ b, h.objs.size ≤ b → Z b) {items : Array Value} {u : W} (hu : Ints items.toList u) : Wd Z (h.push { cls := .type "list", data := .seq items }) u h.objs.size :=
  ⟨hz _ (Nat.le_refl _), items, 0, IsL.new h items, hu⟩
theorem Wds.new (hz : ∀ b, h.objs.size ≤ b → Z b) {items : Array Value} {us : List W} (hu : Items Z h us items.toList) : Wds Z (h.push { cls := .type "list", data := .seq items }) us h.objs.size :=
  ⟨hz _ (Nat.le_refl _), items, 0, IsL.new h items, hu.lk fun b o _ e _ => Heap.get?_push_of_some _ e⟩
theorem Items.length {us vs} (x : Items Z h us vs) : vs.length = us.length := by induction x <;> simp_all
theorem Items.append {us vs us' vs'} (x : Items Z h us vs) (y : Items Z h us' vs') : Items Z h (us ++ us') (vs ++ vs') := by
  induction x with
  | nil => exact y
  | cons a _ ih => exact .cons a ih
theorem Items.take {us vs} (x : Items Z h us vs) : ∀ n, Items Z h (us.take n) (vs.take n) := by
  induction x with
  | nil => intro n; simp; exact .nil
  | cons a _ ih => intro n; cases n with
    | zero => exact .nil
    | succ n => exact .cons a (ih n)
theorem Items.drop {us vs} (x : Items Z h us vs) : ∀ n, Items Z h (us.drop n) (vs.drop n) := by
  induction x with
  | nil => intro n; simp; exact .nil
  | cons a x ih => intro n; cases n with
    | zero => exact .cons a x
    | succ n => exact ih n
theorem Items.get {us vs} (x : Items Z h us vs) : ∀ (k : Nat) (hk : k < us.length), ∃ l, vs[k]? = some (.ref l) ∧ Wd Z h us[k] l := by
  induction x with
  | nil => intro k hk; simp at hk
  | @cons u us l ls a x ih => intro k hk; cases k with
    | zero => exact ⟨l, rfl, a⟩
    | succ k => simpa using ih k (by simpa using hk)
variable (F : Fx w.params Z h₀ L h m) {u v : W} {us vs : List W} {a b : Addr} {Q : Value → Shared → Prop}
include F
theorem add_w (hu : Wd Z h u a) (hv : Wd Z h v b) (hq : ∀ h' c, Fx w.params Z h₀ L h' m → Lk Z h h' → Wd Z h' (u ++ v) c → h.get? c = none → Q (.ref c) ⟨h', g, d, t, os⟩) (hsz : u.length + v.length ≤ 100000) :
    wpAny (model prog w) A (binaryOp .Add (.ref a) (.ref b)) Q E ⟨h, g, d, t, os⟩ := by
  obtain ⟨z, items, n, x, y⟩ := hu
  obtain ⟨z', items', n', x', y'⟩ := hv
  obtain ⟨F', k⟩ := F.push { cls := .type "list", data := .seq (items ++ items') }
  refine P.add_list (s := ⟨h, g, d, t, os⟩) x x' (hq _ _ F' k (.new F.zf (by simpa using y.append y')) (Heap.get?_none_of_le (Nat.le_refl _))) ?_
  have e1 := y.length; have e2 := y'.length
  simp only [Array.length_toList] at e1 e2
  rw [e1, e2]
  exact Nat.le_trans hsz (by decide)
theorem add_ws (hu : Wds Z h us a) (hv : Wds Z h vs b) (hq : ∀ h' c, Fx w.params Z h₀ L h' m → Lk Z h h' → Wds Z h' (us ++ vs) c → h.get? c = none → Q (.ref c) ⟨h', g, d, t, os⟩) (hsz : us.length + vs.length ≤ 100000) :
    wpAny (model prog w) A (binaryOp .Add (.ref a) (.ref b)) Q E ⟨h, g, d, t, os⟩ := by
  obtain ⟨z, items, n, x, y⟩ := hu
  obtain ⟨z', items', n', x', y'⟩ := hv
  obtain ⟨F', k⟩ := F.push { cls := .type "list", data := .seq (items ++ items') }
  refine P.add_list (s := ⟨h, g, d, t, os⟩) x x' (hq _ _ F' k (.new F.zf (by simpa using y.append y')) (Heap.get?_none_of_le (Nat.le_refl _))) ?_
  have e1 := y.length; have e2 := y'.length
  simp only [Array.length_toList] at e1 e2
  rw [e1, e2]
  exact Nat.le_trans hsz (by decide)
theorem list0 {pos : Pos} (hq : ∀ h' c, Fx w.params Z h₀ L h' m → Lk Z h h' → IsL h' c #[] 0 → Wd Z h' [] c → Wds Z h' [] c → h.get? c = none → (∀ b o, h.get? b = some o → h'.get? b = some o) → Q (.ref c) ⟨h', g, d, t, os⟩) :
    wpAny (model prog w) A (eval (.List [] pos) env) Q E ⟨h, g, d, t, os⟩ := by
  obtain ⟨F', k⟩ := F.push { cls := .type "list", data := .seq #[] }
  exact wpAny_List (wpAny_items_nil ⟨Nat.zero_le _, hq _ _ F' k (IsL.new h #[]) ⟨F.zf _ (Nat.le_refl _), _, _, IsL.new h #[], .nil⟩ ⟨F.zf _ (Nat.le_refl _), _, _, IsL.new h #[], .nil⟩ (Heap.get?_none_of_le (Nat.le_refl _)) fun _ _ e => Heap.get?_push_of_some _ e⟩)
theorem list1 {e : Expr} {pos : Pos} (he : starEach [e] env = [(false, eval e env)])
    (hq : wpAny (model prog w) A (eval e env) (fun v s => (∃ i tk, v = .int i tk ∧ ∃ m, Fx w.params Z h₀ L s.heap m ∧ ∀ h' c, Fx w.params Z h₀ L h' m → Lk Z s.heap h' → Wd Z h' [i] c → s.heap.get? c = none → Q (.ref c) { s with heap := h' }) ∨
      ∃ b u, v = .ref b ∧ Wd Z s.heap u b ∧ ∃ m, Fx w.params Z h₀ L s.heap m ∧ ∀ h' c, Fx w.params Z h₀ L h' m → Lk Z s.heap h' → Wds Z h' [u] c → s.heap.get? c = none → Q (.ref c) { s with heap := h' }) E ⟨h, g, d, t, os⟩) :
    wpAny (model prog w) A (eval (.List [e] pos) env) Q E ⟨h, g, d, t, os⟩ := by
  refine wpAny_List (wpAny_items_cons (wpAny_mono hq (fun v s z => wpAny_items_nil ⟨by show 1 ≤ sizeLine; decide, ?_⟩) fun _ _ z => z) he)
  rcases z with ⟨i, tk, rfl, m, F, z⟩ | ⟨b, u, rfl, hu, m, F, z⟩
  · obtain ⟨F', k⟩ := F.push { cls := .type "list", data := .seq #[.int i tk] }
    exact z _ _ F' k (.new F.zf (.cons .nil)) (Heap.get?_none_of_le (Nat.le_refl _))
  · obtain ⟨F', k⟩ := F.push { cls := .type "list", data := .seq #[.ref b] }
    exact z _ _ F' k (.new F.zf (.cons hu .nil)) (Heap.get?_none_of_le (Nat.le_refl _))
omit F in
theorem len_w (hu : Wd Z h u a) (hq : ∀ tk tk', Q (.int u.length tk) ⟨h, g, d, tk', os⟩) (hsz : u.length ≤ 100000) : wpAny (model prog w) A (call (.builtin "len") [.ref a]) Q E ⟨h, g, d, t, os⟩ := by
  obtain ⟨z, items, n, x, y⟩ := hu
  have e := y.length
  simp only [Array.length_toList] at e
  exact Calls.call_len_list (s := ⟨h, g, d, t, os⟩) x.isList (by rw [e]; lia) (by rw [e]; exact hq _ _)
omit F in
theorem len_ws (hu : Wds Z h us a) (hq : ∀ tk tk', Q (.int us.length tk) ⟨h, g, d, tk', os⟩) (hsz : us.length ≤ 100000) : wpAny (model prog w) A (call (.builtin "len") [.ref a]) Q E ⟨h, g, d, t, os⟩ := by
  obtain ⟨z, items, n, x, y⟩ := hu
  have e := y.length
  simp only [Array.length_toList] at e
  exact Calls.call_len_list (s := ⟨h, g, d, t, os⟩) x.isList (by rw [e]; lia) (by rw [e]; exact hq _ _)
omit F in
theorem get_w {k : Int} {tk : Tok} (hu : Wd Z h u a) (n : Nat) (hn : n < u.length) (hk : k = n ∨ k = n - u.length) (hq : ∀ tk, Q (.int u[n] tk) ⟨h, g, d, t, os⟩) (hsz : u.length ≤ 100000) :
    wpAny (model prog w) A (getItem (.ref a) (.int k tk)) Q E ⟨h, g, d, t, os⟩ := by
  obtain ⟨z, items, nn, x, y⟩ := hu
  have e := y.length
  simp only [Array.length_toList] at e
  obtain ⟨t', ht'⟩ := y.get n hn
  rw [Array.getElem?_toList] at ht'
  rcases hk with rfl | rfl
  · exact wpAny_getItem_list (s := ⟨h, g, d, t, os⟩) x.isList (by lia) (by lia) ht' (hq _)
  · refine wpAny_getItem_list_neg (s := ⟨h, g, d, t, os⟩) (x := .int u[n] t') x.isList (by lia) (by lia) (by lia) ?_ (hq _)
    rw [e, show ((n : Int) - u.length + u.length).toNat = n by lia]
    exact ht'
omit F in
theorem get_ws {k : Int} {tk : Tok} (hu : Wds Z h us a) (n : Nat) (hn : n < us.length) (hk : k = n ∨ k = n - us.length) (hq : ∀ l, Wd Z h us[n] l → Q (.ref l) ⟨h, g, d, t, os⟩) (hsz : us.length ≤ 100000) :
    wpAny (model prog w) A (getItem (.ref a) (.int k tk)) Q E ⟨h, g, d, t, os⟩ := by
  obtain ⟨z, items, nn, x, y⟩ := hu
  have e := y.length
  simp only [Array.length_toList] at e
  obtain ⟨l, ht', hl⟩ := y.get n hn
  rw [Array.getElem?_toList] at ht'
  rcases hk with rfl | rfl
  · exact wpAny_getItem_list (s := ⟨h, g, d, t, os⟩) x.isList (by lia) (by lia) ht' (hq _ hl)
  · refine wpAny_getItem_list_neg (s := ⟨h, g, d, t, os⟩) (x := .ref l) x.isList (by lia) (by lia) (by lia) ?_ (hq _ hl)
    rw [e, show ((n : Int) - us.length + us.length).toNat = n by lia]
    exact ht'
/-- the bounds of a slice: from lo, to hi -/
inductive Part : Value → Option Int → Prop
  | none : Part .none none
  | int (i tk) : Part (.int i tk) (some i)
def plo (lo : Option Int) (n : Nat) : Nat := match lo with | none => 0 | some i => if i < 0 then (i + n).toNat else min i.toNat n
def phi (hi : Option Int) (n : Nat) : Nat := match hi with | none => n | some i => if i < 0 then (i + n).toNat else min i.toNat n
end
theorem pick_le (items : Array Value) (lo hi : Option Int) (h : lo = none ∨ hi = none) : (slicePick items lo hi none).toList = (items.toList.take (phi hi items.size)).drop (plo lo items.size) := by
  rcases h with rfl | rfl
  · cases hi with
    | none => simp [slicePick_all, phi, plo]
              rw [List.take_of_length_le (by simp)]
    | some i =>
      by_cases hi : i < 0
      · have := slicePick_butLast items (-i).toNat (by lia)
        rw [show (-(((-i).toNat : Nat) : Int)) = i by lia] at this
        simp only [this, phi, plo, hi, if_true, List.drop_zero]
        congr 1; lia
      · have := slicePick_upto' items i.toNat
        rw [show ((i.toNat : Nat) : Int) = i by lia] at this
        simp [this, phi, plo, hi]
  · cases lo with
    | none => simp [slicePick_all, phi, plo]
              rw [List.take_of_length_le (by simp)]
    | some i =>
      by_cases hi : i < 0
      · have := slicePick_last items (-i).toNat (by lia)
        rw [show (-(((-i).toNat : Nat) : Int)) = i by lia] at this
        simp only [this, phi, plo, hi, if_true]
        rw [List.take_of_length_le (by simp)]
        congr 1; lia
      · have := slicePick_from' items i.toNat
        rw [show ((i.toNat : Nat) : Int) = i by lia] at this
        simp [this, phi, plo, hi]
        rw [List.take_of_length_le (by simp)]
        by_cases hs : i.toNat ≤ items.size
        · rw [Nat.min_eq_left hs]
        · rw [List.drop_of_length_le (by simp; lia), List.drop_of_length_le (by simp; lia)]
section
variable {prog : Program} {w : World} {A : Around} {E : Value → Shared → Prop} {h : Heap} {g : Array GenState} {d : Drawn} {t : Nat} {os : OsState} {env : Env} {Z : Addr → Prop} {h₀ : Heap} {L : Addr} {m : Str → Option Value}
theorem Part.is {v k} (x : Part v k) : IsPart v k := by cases x; exact .none; exact .int _ _
theorem list_typeIs {s : Shared} {l items n} (x : IsL s.heap l items n) : s.TypeIs (.ref l) "list" := ⟨_, x, rfl⟩
theorem wpAny_of_eq' {α : Type} {M : Model} {m m' : Sem α} {Q : α → Shared → Prop} {s : Shared} (e : m = m') (x : wpAny M A m' Q E s) : wpAny M A m Q E s := e ▸ x
/-- subscript by a plain index -/
theorem sub_idx (_F : Fx w.params Z h₀ L h m) {value idx : Expr} {pos : Pos} {Q : Value → Shared → Prop}
    (hq : wpAny (model prog w) A (eval value env) (fun o s₁ => wpAny (model prog w) A (eval idx env) (fun i s₂ => ∃ l, o = .ref l ∧ ((∃ u, Wd Z s₂.heap u l) ∨ ∃ us, Wds Z s₂.heap us l) ∧ wpAny (model prog w) A (getItem o i) Q E s₂) E s₁) E ⟨h, g, d, t, os⟩)
    (ht : ∀ o r, letTemporaryGo value o r = pure ()) (hs : ∀ o i, subscripted idx false o i = operate [o, i] (getItem o i)) : wpAny (model prog w) A (eval (.Subscript value idx pos) env) Q E ⟨h, g, d, t, os⟩ := by
  rw [eval_Subscript]
  refine wpAny_bind (wpAny_mono hq (fun o s₁ h₁ => wpAny_bind (wpAny_holding (wpAny_mono h₁ (fun i s₂ h₂ => wpAny_bind (wpAny_standAt ?_)) fun _ _ x => x))) fun _ _ x => x)
  obtain ⟨l, rfl, x, hg⟩ := h₂
  have hT : s₂.TypeIs (.ref l) "list" := by
    rcases x with ⟨u, z, items, n, x, _⟩ | ⟨u, z, items, n, x, _⟩ <;> exact list_typeIs x
  refine wpAny_bind ?_
  rw [getitemInPython_of_ne hT.not_modules]
  refine wpAny_bind (wpAny_specialOf hT list_getitem_lookup ?_)
  have fin : wpAny (model prog w) A (subscripted idx false (.ref l) i) (fun r s₃ => wpAny (model prog w) A (letTemporaryGo value (.ref l) r >>= fun _ => pure r) Q E s₃) E s₂ :=
    wpAny_of_eq' (hs _ _) <| wpAny_operating (wpAny_mono hg (fun r s₃ h₃ => wpAny_bind (wpAny_of_eq (ht _ r) (wpAny_pure h₃))) fun _ _ x => x)
  first
    | exact wpAny_pure (wpAny_bind fin)
    | exact wpAny_bind (wpAny_pure (wpAny_bind fin))
    | exact wpAny_bind fin
theorem lt_w {u v : W} {a b : Addr} {Q : Value → Shared → Prop} (hu : Wd Z h u a) (hv : Wd Z h v b) (hA : A.units < cLine) (hq : Q (.bool (llt u v)) ⟨h, g, d, t, os⟩) :
    wpAny (model prog w) A (compareOp .Lt (.ref a) (.ref b)) Q E ⟨h, g, d, t, os⟩ := by
  obtain ⟨z, items, n, x, y⟩ := hu
  obtain ⟨z', items', n', x', y'⟩ := hv
  exact lt_list (s := ⟨h, g, d, t, os⟩) x x' y y' hA hq
theorem cge_w {u v : W} {a b : Addr} {Q : Value → Shared → Prop} (hu : Wd Z h u a) (hv : Wd Z h v b) (hq : Q (.bool (!llt u v)) ⟨h, g, d, t, os⟩) :
    wpAny (model prog w) A (call (.builtin "list.__ge__") [.ref a, .ref b]) Q E ⟨h, g, d, t, os⟩ := by
  obtain ⟨z, items, n, x, y⟩ := hu
  obtain ⟨z', items', n', x', y'⟩ := hv
  exact ge_list (s := ⟨h, g, d, t, os⟩) x x' y y' hq
theorem clt_w {u v : W} {a b : Addr} {Q : Value → Shared → Prop} (hu : Wd Z h u a) (hv : Wd Z h v b) (hq : Q (.bool (llt u v)) ⟨h, g, d, t, os⟩) :
    wpAny (model prog w) A (call (.builtin "list.__lt__") [.ref a, .ref b]) Q E ⟨h, g, d, t, os⟩ := by
  obtain ⟨z, items, n, x, y⟩ := hu
  obtain ⟨z', items', n', x', y'⟩ := hv
  exact llt_list (s := ⟨h, g, d, t, os⟩) x x' y y' hq
theorem type_w {u : W} {a : Addr} {Q : Value → Shared → Prop} (hu : Wd Z h u a) (hq : Q (.type "list") ⟨h, g, d, t, os⟩) : wpAny (model prog w) A (call (.type "type") [.ref a]) Q E ⟨h, g, d, t, os⟩ := by
  obtain ⟨z, items, n, x, y⟩ := hu
  exact call_type_of (Tx := "list") (s := ⟨h, g, d, t, os⟩) ⟨_, x, rfl⟩ rfl hq
theorem is_bool {b : Bool} {v : Value} {Q : Value → Shared → Prop} (hv : isSame (.bool b) v = pure false) {M : Model} {s : Shared} (hq : Q (.bool false) s) : wpAny M A (compareOp .Is (.bool b) v) Q E s := by
  show wpAny M A (do return .bool (← isSame (.bool b) v)) Q E s
  rw [hv]; exact wpAny_bind (wpAny_pure (wpAny_pure hq))
end
end Mine
end

section
-- part U5
open PySem PySem.W PyProof.Rows
set_option maxRecDepth 100000
set_option maxHeartbeats 1000000
namespace Mine
theorem tl_list_ga : typeLookup (.type ((Manifest.find? "list").elim "type" fun x => x.metatype)) (Str.ofString "__getattribute__") = pure (some (.builtin "type.__getattribute__")) := by kernel_rfl
theorem pif {a b : Prop} (h : b) : if false = true then a else b := by simpa using h
theorem pit {a b : Prop} (h : a) : if true = true then a else b := by simpa using h
theorem pite {c : Bool} {a b : Prop} (h1 : c = true → a) (h2 : c = false → b) : if c = true then a else b := by cases c <;> simp_all
section
variable {prog : Program} {w : World} {A : Around} {E : Value → Shared → Prop} {h : Heap} {g : Array GenState} {d : Drawn} {t : Nat} {os : OsState} {env : Env} {Z : Addr → Prop} {h₀ : Heap} {L : Addr} {m : Str → Option Value}
theorem get_ws_m {us : List W} {a : Addr} {Q : Value → Shared → Prop} {k : Int} {tk : Tok} (hu : Wds Z h us a) (hq : ∀ n l (hn : n < us.length), (n : Int) = k + us.length → Wd Z h us[n] l → Q (.ref l) ⟨h, g, d, t, os⟩) (hk : k < 0) (hn : -(us.length : Int) ≤ k) (hsz : us.length ≤ 100000) :
    wpAny (model prog w) A (getItem (.ref a) (.int k tk)) Q E ⟨h, g, d, t, os⟩ :=
  get_ws hu (k + us.length).toNat (by lia) (.inr (by lia)) (fun l hl => hq _ l _ (by lia) hl) hsz
theorem get_ws_p {us : List W} {a : Addr} {Q : Value → Shared → Prop} {k : Int} {tk : Tok} (hu : Wds Z h us a) (hq : ∀ n l (hn : n < us.length), (n : Int) = k → Wd Z h us[n] l → Q (.ref l) ⟨h, g, d, t, os⟩) (hk : 0 ≤ k) (hn : k < us.length) (hsz : us.length ≤ 100000) :
    wpAny (model prog w) A (getItem (.ref a) (.int k tk)) Q E ⟨h, g, d, t, os⟩ :=
  get_ws hu k.toNat (by lia) (.inl (by lia)) (fun l hl => hq _ l _ (by lia) hl) hsz
theorem get_w_m {u : W} {a : Addr} {Q : Value → Shared → Prop} {k : Int} {tk : Tok} (hu : Wd Z h u a) (hq : ∀ n tk (hn : n < u.length), (n : Int) = k + u.length → Q (.int u[n] tk) ⟨h, g, d, t, os⟩) (hk : k < 0) (hn : -(u.length : Int) ≤ k) (hsz : u.length ≤ 100000) :
    wpAny (model prog w) A (getItem (.ref a) (.int k tk)) Q E ⟨h, g, d, t, os⟩ :=
  get_w hu (k + u.length).toNat (by lia) (.inr (by lia)) (fun tk => hq _ tk _ (by lia)) hsz
theorem get_w_p {u : W} {a : Addr} {Q : Value → Shared → Prop} {k : Int} {tk : Tok} (hu : Wd Z h u a) (hq : ∀ n tk (hn : n < u.length), (n : Int) = k → Q (.int u[n] tk) ⟨h, g, d, t, os⟩) (hk : 0 ≤ k) (hn : k < u.length) (hsz : u.length ≤ 100000) :
    wpAny (model prog w) A (getItem (.ref a) (.int k tk)) Q E ⟨h, g, d, t, os⟩ :=
  get_w hu k.toNat (by lia) (.inl (by lia)) (fun tk => hq _ tk _ (by lia)) hsz
theorem k_int {M : Model} {i : Int} {k : Nat} {pos : Pos} {Q : Value → Shared → Prop} (hq : Q (.int i t) ⟨h, g, d, t + 1, os⟩) : wpAny M A (eval (.Constant (.int i) k pos) env) Q E ⟨h, g, d, t, os⟩ := wpAny_Constant_int (s := ⟨h, g, d, t, os⟩) hq
theorem neg_i {a : Int} {tk : Tok} {Q : Value → Shared → Prop} (hq : Q (.int (-a) t) ⟨h, g, d, t + 1, os⟩) : wpAny (model prog w) A (unaryOp .USub (.int a tk)) Q E ⟨h, g, d, t, os⟩ := P.neg_int (s := ⟨h, g, d, t, os⟩) hq
theorem sub_i {a b : Int} {tk tk' : Tok} {Q : Value → Shared → Prop} (hq : Q (.int (a - b) t) ⟨h, g, d, t + 1, os⟩) : wpAny (model prog w) A (binaryOp .Sub (.int a tk) (.int b tk')) Q E ⟨h, g, d, t, os⟩ := P.sub_int (s := ⟨h, g, d, t, os⟩) hq
theorem add_i {a b : Int} {tk tk' : Tok} {Q : Value → Shared → Prop} (hq : Q (.int (a + b) t) ⟨h, g, d, t + 1, os⟩) : wpAny (model prog w) A (binaryOp .Add (.int a tk) (.int b tk')) Q E ⟨h, g, d, t, os⟩ := P.add_int (s := ⟨h, g, d, t, os⟩) hq
theorem ga_ge' {expr : Bool} {Q : Value → Shared → Prop} (hq : ∀ u, Q (.builtin "list.__ge__") ⟨h, g, d, u, os⟩) : wpAny (model prog w) A (getAttr (.type "list") (Str.ofString "__ge__") expr) Q E ⟨h, g, d, t, os⟩ := ga_ge (s := ⟨h, g, d, t, os⟩) hq
theorem ga_lt' {expr : Bool} {Q : Value → Shared → Prop} (hq : ∀ u, Q (.builtin "list.__lt__") ⟨h, g, d, u, os⟩) : wpAny (model prog w) A (getAttr (.type "list") (Str.ofString "__lt__") expr) Q E ⟨h, g, d, t, os⟩ := ga_lt (s := ⟨h, g, d, t, os⟩) hq
theorem ldf {M : Model} {a : Addr} {Q : Obj → Shared → Prop} (F : Fx w.params Z h₀ L h m) (ho : List.lookup a (KT w.params) = some { cls := .type "function", data := .func (fdOf w.params a) })
    (hq : Q { cls := .type "function", data := .func (fdOf w.params a) } ⟨h, g, d, t, os⟩) : wpAny M A (load a) Q E ⟨h, g, d, t, os⟩ := wpAny_load (s := ⟨h, g, d, t, os⟩) (F.kx a _ ho) hq
theorem ev_none {M : Model} {Q : Value → Shared → Prop} {s : Shared} (hq : Q .none s) : wpAny M A (evalPart none env) Q E s := wpAny_pure hq
theorem ev_some {M : Model} {e : Expr} {Q : Value → Shared → Prop} {s : Shared} (hq : wpAny M A (eval e env) Q E s) : wpAny M A (evalPart (some e) env) Q E s := hq
theorem slc (_F : Fx w.params Z h₀ L h m) {value : Expr} {lo hi : Option Expr} {p pos : Pos} {Q : Value → Shared → Prop}
    (hq : wpAny (model prog w) A (eval value env) (fun o s₁ => wpAny (model prog w) A (evalPart lo env) (fun vl s₂ => wpAny (model prog w) A (evalPart hi env) (fun vu s₃ =>
      ∃ l kl ku m, o = .ref l ∧ Part vl kl ∧ Part vu ku ∧ (kl = none ∨ ku = none) ∧ Fx w.params Z h₀ L s₃.heap m ∧ ((∃ u, Wd Z s₃.heap u l ∧ u.length ≤ 100000 ∧
       ∀ h' c, Fx w.params Z h₀ L h' m → Lk Z s₃.heap h' → Wd Z h' ((u.take (phi ku u.length)).drop (plo kl u.length)) c → s₃.heap.get? c = none → Q (.ref c) { s₃ with heap := h' }) ∨
       (∃ u, Wds Z s₃.heap u l ∧ u.length ≤ 100000 ∧
       ∀ h' c, Fx w.params Z h₀ L h' m → Lk Z s₃.heap h' → Wds Z h' ((u.take (phi ku u.length)).drop (plo kl u.length)) c → s₃.heap.get? c = none → Q (.ref c) { s₃ with heap := h' }))) E s₂) E s₁) E ⟨h, g, d, t, os⟩)
    (ht : ∀ o r, letTemporaryGo value o r = pure ()) : wpAny (model prog w) A (eval (.Subscript value (.Slice lo hi none p) pos) env) Q E ⟨h, g, d, t, os⟩ := by
  refine wpAny_Subscript_list_slice (wpAny_mono hq (fun o s₁ z => wpAny_mono z (fun vl s₂ z => wpAny_mono z (fun vu s₃ z => ?_) fun _ _ z => z) fun _ _ z => z) fun _ _ z => z) ht
  obtain ⟨l, kl, ku, m, rfl, pl, pu, hn, F, z⟩ := z
  rcases z with ⟨u, ⟨z0, items, n, x, y⟩, hsz, z⟩ | ⟨u, ⟨z0, items, n, x, y⟩, hsz, z⟩
  all_goals
    have e := y.length
    simp only [Array.length_toList] at e
    refine ⟨l, items, kl, ku, rfl, x.isList, by rw [e]; exact Nat.le_trans hsz (by decide), pl.is, pu.is, ?_⟩
    obtain ⟨F1, k1⟩ := F.push { cls := .type "slice", data := .fields #[vl, vu, .none] }
    obtain ⟨F2, k2⟩ := F1.push { cls := .type "list", data := .seq (slicePick items kl ku none) }
    have hc : s₃.heap.objs.size + 1 = (s₃.heap.push { cls := .type "slice", data := .fields #[vl, vu, .none] }).objs.size := by rw [Heap.size_push]
    refine z _ _ F2 (fun b o zb e hd => k2 b o zb (k1 b o zb e hd) hd) ?_ (Heap.get?_none_of_le (by lia))
    rw [hc]
    refine .new F1.zf ?_
    rw [pick_le _ _ _ hn, e]
    first
      | exact (y.take _).drop _
      | exact ((y.lk k1).take _).drop _
end
theorem mem_fl {us : List W} {u : W} (hu : u ∈ us) : u.length ≤ us.flatten.length := by
  induction us with
  | nil => cases hu
  | cons v us ih =>
    rw [List.flatten_cons, List.length_append]
    rcases List.mem_cons.mp hu with rfl | hu
    · lia
    · have := ih hu; lia
theorem le_fl {us : List W} {n : Nat} (hn : n < us.length) (h : us.flatten.length ≤ 1001) : us[n].length ≤ 1001 := Nat.le_trans (mem_fl (List.getElem_mem hn)) h
theorem two_fl {us : List W} {n k : Nat} (h : us.flatten.length ≤ 1001) (hn : n < us.length) (hk : k < us.length) : us[n].length + us[k].length ≤ 100000 := by
  have := le_fl hn h; have := le_fl hk h; lia
theorem norm_step {n : Nat} {ps R : List W} {i j : Nat} (hn : ps.length = n) (h : norm n ps = R) (hi : i < ps.length) (hj : j < ps.length) (ei : (i : Int) = -2 + ps.length) (ej : (j : Int) = -1 + ps.length) :
    (llt ps[i] ps[j] = true → norm (n - 1) (((ps.take (phi (some (-2)) ps.length)).drop (plo none ps.length)) ++ [ps[i] ++ ps[j]]) = R ∧ (((ps.take (phi (some (-2)) ps.length)).drop (plo none ps.length)) ++ [ps[i] ++ ps[j]]).length = n - 1 ∧
      (((ps.take (phi (some (-2)) ps.length)).drop (plo none ps.length)) ++ [ps[i] ++ ps[j]]).flatten = ps.flatten) ∧ (llt ps[i] ps[j] = false → ps = R) := by
  obtain ⟨f, rfl⟩ : ∃ f, n = f + 1 := ⟨n - 1, by lia⟩
  have e1 : i = ps.length - 2 := by lia
  have e2 : j = ps.length - 1 := by lia
  subst e1 e2
  rw [norm_succ] at h
  have g1 : ps.getD (ps.length - 2) [] = ps[ps.length - 2] := by simp [List.getD_eq_getElem?_getD, hi]
  have g2 : ps.getD (ps.length - 1) [] = ps[ps.length - 1] := by simp [List.getD_eq_getElem?_getD, hj]
  rw [g1, g2] at h
  have ep : phi (some (-2)) ps.length = ps.length - 2 := by unfold phi; simp; lia
  have el : plo none ps.length = 0 := rfl
  rw [ep, el, List.drop_zero]
  constructor
  · intro hl
    rw [if_pos ⟨by lia, hl⟩] at h
    refine ⟨h, by simp; lia, ?_⟩
    conv => rhs; rw [← List.take_append_drop (ps.length - 2) ps]
    rw [List.flatten_append, List.flatten_append]
    congr 1
    have : ps.drop (ps.length - 2) = [ps[ps.length - 2], ps[ps.length - 1]] := by
      rw [List.drop_eq_getElem_cons hi, show ps.length - 2 + 1 = ps.length - 1 by lia, List.drop_eq_getElem_cons hj]
      rw [List.drop_of_length_le (by lia)]
    rw [this]; simp
  · intro hl
    rw [if_neg (fun x => by rw [hl] at x; exact Bool.false_ne_true x.2)] at h
    exact h
end Mine
end

section
-- part U6
open PySem PySem.W PyProof.Rows PySem.SeqAt
set_option maxRecDepth 100000
set_option maxHeartbeats 1000000
namespace Mine
section
variable {prog : Program} {w : World} {A : Around} {E : Value → Shared → Prop} {h : Heap} {g : Array GenState} {d : Drawn} {t : Nat} {os : OsState} {env : Env} {Z : Addr → Prop}
def wd (u : W) : PyData := .list (u.map .int)
def wds (us : List W) : PyData := .list (us.map wd)
theorem Ints.reads {vs u} (x : Ints vs u) : ReadsAll h vs (u.map .int) [] := by
  induction x with
  | nil => exact .nil
  | cons _ ih => exact .cons (.int _ _) ih
theorem Wd.reads {u : W} {a : Addr} (x : Wd Z h u a) : ∃ as, Reads h (.ref a) (wd u) as := by
  obtain ⟨z, items, n, x, y⟩ := x
  exact ⟨_, .list x rfl rfl y.reads⟩
theorem Items.reads {us vs} (x : Items Z h us vs) : ∃ as, ReadsAll h vs (us.map wd) as := by
  induction x with
  | nil => exact ⟨_, .nil⟩
  | cons a _ ih => obtain ⟨_, r⟩ := a.reads; obtain ⟨_, rs⟩ := ih; exact ⟨_, .cons r rs⟩
theorem Wds.reads {us : List W} {a : Addr} (x : Wds Z h us a) : ∃ as, Reads h (.ref a) (wds us) as := by
  obtain ⟨z, items, n, x, y⟩ := x
  obtain ⟨_, r⟩ := y.reads
  exact ⟨_, .list x rfl rfl r⟩
theorem lay_ints : ∀ u : W, PyData.canLayAll0 (u.map .int) = true
  | [] => by unfold PyData.canLayAll0; rfl
  | i :: u => by rw [List.map_cons]; unfold PyData.canLayAll0; rw [lay_ints u]; simp [PyData.canLay0]
theorem dep_ints : ∀ u : W, PyData.depthAll (u.map .int) = 0
  | [] => by unfold PyData.depthAll; rfl
  | i :: u => by rw [List.map_cons]; unfold PyData.depthAll; rw [dep_ints u]; simp [PyData.depth]
theorem lay_w (u : W) : PyData.canLay0 (wd u) = true := by unfold wd PyData.canLay0; exact lay_ints u
theorem dep_w (u : W) : PyData.depth (wd u) = 1 := by unfold wd PyData.depth; rw [dep_ints]
theorem shp_w (u : W) : shaped (wd u) = true := by unfold shaped; rw [lay_w, dep_w]; rfl
theorem lay_ws : ∀ us : List W, PyData.canLayAll0 (us.map wd) = true
  | [] => by unfold PyData.canLayAll0; rfl
  | i :: u => by rw [List.map_cons]; unfold PyData.canLayAll0; rw [lay_ws u, lay_w]; rfl
theorem dep_ws : ∀ us : List W, PyData.depthAll (us.map wd) ≤ 1
  | [] => by unfold PyData.depthAll; decide
  | i :: u => by rw [List.map_cons]; unfold PyData.depthAll; rw [dep_w]; have := dep_ws u; lia
theorem shp_ws (us : List W) : shaped (wds us) = true := by
  unfold shaped wds
  have h1 : PyData.canLay0 (.list (us.map wd)) = true := by unfold PyData.canLay0; exact lay_ws us
  have h2 : PyData.depth (.list (us.map wd)) ≤ 2 := by unfold PyData.depth; have := dep_ws us; lia
  rw [h1, Bool.true_and]; exact decide_eq_true (by lia)
theorem eqv_ints : ∀ u v : W, PyData.eqvAll (u.map .int) (v.map .int) = decide (u = v)
  | [], [] => by simp [PyData.eqvAll]
  | [], _ :: _ => by simp [PyData.eqvAll]
  | _ :: _, [] => by simp [PyData.eqvAll]
  | a :: u, b :: v => by
    rw [List.map_cons, List.map_cons]; unfold PyData.eqvAll; rw [eqv_ints u v]
    simp only [PyData.eqv, List.cons.injEq]
    by_cases h1 : a = b <;> by_cases h2 : u = v <;> simp [h1, h2]
theorem eqv_w (u v : W) : PyData.eqv (wd u) (wd v) = decide (u = v) := by unfold wd PyData.eqv; exact eqv_ints u v
theorem eqv_wsA : ∀ us vs : List W, PyData.eqvAll (us.map wd) (vs.map wd) = decide (us = vs)
  | [], [] => by simp [PyData.eqvAll]
  | [], _ :: _ => by simp [PyData.eqvAll]
  | _ :: _, [] => by simp [PyData.eqvAll]
  | a :: u, b :: v => by
    rw [List.map_cons, List.map_cons]; unfold PyData.eqvAll; rw [eqv_wsA u v, eqv_w]
    simp only [List.cons.injEq]
    by_cases h1 : a = b <;> by_cases h2 : u = v <;> simp [h1, h2]
theorem eqv_ws (us vs : List W) : PyData.eqv (wds us) (wds vs) = decide (us = vs) := by unfold wds PyData.eqv; exact eqv_wsA us vs
variable {u v : W} {us vs : List W} {a b : Addr} {Q : Value → Shared → Prop}
theorem eq_w (hu : Wd Z h u a) (hv : Wd Z h v b) (hA : A.units < 9000) (hq : Q (.bool (decide (u = v))) ⟨h, g, d, t, os⟩) : wpAny (model prog w) A (compareOp .Eq (.ref a) (.ref b)) Q E ⟨h, g, d, t, os⟩ := by
  obtain ⟨_, r⟩ := hu.reads; obtain ⟨_, r'⟩ := hv.reads
  exact compareEq_shaped (s := ⟨h, g, d, t, os⟩) r r' (shp_w u) (shp_w v) (show _ < 9900 by lia) (by rw [eqv_w]; exact hq)
theorem ne_w (hu : Wd Z h u a) (hv : Wd Z h v b) (hA : A.units < 9000) (hq : Q (.bool (!decide (u = v))) ⟨h, g, d, t, os⟩) : wpAny (model prog w) A (compareOp .NotEq (.ref a) (.ref b)) Q E ⟨h, g, d, t, os⟩ := by
  obtain ⟨_, r⟩ := hu.reads; obtain ⟨_, r'⟩ := hv.reads
  exact compareNe_shaped (s := ⟨h, g, d, t, os⟩) r r' (shp_w u) (shp_w v) (show _ < 9900 by lia) (by rw [eqv_w]; exact hq)
theorem ne_ws (hu : Wds Z h us a) (hv : Wds Z h vs b) (hA : A.units < 9000) (hq : Q (.bool (!decide (us = vs))) ⟨h, g, d, t, os⟩) : wpAny (model prog w) A (compareOp .NotEq (.ref a) (.ref b)) Q E ⟨h, g, d, t, os⟩ := by
  obtain ⟨_, r⟩ := hu.reads; obtain ⟨_, r'⟩ := hv.reads
  exact compareNe_shaped (s := ⟨h, g, d, t, os⟩) r r' (shp_ws us) (shp_ws vs) (show _ < 9900 by lia) (by rw [eqv_ws]; exact hq)
end
end Mine
end

section
-- part U7
open PySem PySem.W PyProof.Rows
set_option maxRecDepth 100000
set_option maxHeartbeats 1000000
namespace Mine
theorem entry_it : entryFor table "iter" = some Builtin.«iter» := entryFor_of_fast (by kernel_rfl)
theorem kind_it : builtinKind "iter" = none := by decide +kernel
theorem plain_it : plainId "iter" = true := by decide +kernel
theorem args_it (a : Value) : argsOk "iter" ⟨[a], []⟩ := by unfold argsOk; kernel_rfl
def Lc (Z : Addr → Prop) (c : String) (h h' : Heap) : Prop := ∀ b o, Z b → h.get? b = some o → Kp o → (o.cls ≠ .type c ∨ ∀ vs, o.data ≠ .fields vs) → h'.get? b = some o
theorem Ls.lc {Z : Addr → Prop} {x : Addr} {c : String} {h h' : Heap} (k : Ls Z x h h') (hx : ∃ o, h.get? x = some o ∧ o.cls = .type c ∧ ∃ vs, o.data = .fields vs) : Lc Z c h h' := fun b o z e hd hc => k b o (fun q => by
  subst q; obtain ⟨o', e', hc', vs, hv⟩ := hx; rw [e] at e'; cases e'; exact hc.elim (fun x => x hc') fun x => x _ hv) z e hd
theorem lne : ∀ {c : String}, c ≠ "list" → Value.type "list" ≠ .type c := fun h e => by injection e with e; exact h e.symm
theorem Wd.lcL {Z : Addr → Prop} {h h' : Heap} {u : W} {l : Addr} (k : Lc Z "list_iterator" h h') (x : Wd Z h u l) : Wd Z h' u l := let ⟨z, items, n, a, b⟩ := x; ⟨z, items, n, k _ _ z a .list (.inl (lne (by decide))), b⟩
theorem Wd.lcR {Z : Addr → Prop} {h h' : Heap} {u : W} {l : Addr} (k : Lc Z "range_iterator" h h') (x : Wd Z h u l) : Wd Z h' u l := let ⟨z, items, n, a, b⟩ := x; ⟨z, items, n, k _ _ z a .list (.inl (lne (by decide))), b⟩
theorem Items.lcL {Z : Addr → Prop} {h h' : Heap} {us ls} (k : Lc Z "list_iterator" h h') (x : Items Z h us ls) : Items Z h' us ls := by
  induction x with
  | nil => exact .nil
  | cons a _ ih => exact .cons (a.lcL k) ih
theorem Items.lcR {Z : Addr → Prop} {h h' : Heap} {us ls} (k : Lc Z "range_iterator" h h') (x : Items Z h us ls) : Items Z h' us ls := by
  induction x with
  | nil => exact .nil
  | cons a _ ih => exact .cons (a.lcR k) ih
theorem Wds.lcL {Z : Addr → Prop} {h h' : Heap} {us} {l : Addr} (k : Lc Z "list_iterator" h h') (x : Wds Z h us l) : Wds Z h' us l := let ⟨z, items, n, a, b⟩ := x; ⟨z, items, n, k _ _ z a .list (.inl (lne (by decide))), b.lcL k⟩
theorem Wds.lcR {Z : Addr → Prop} {h h' : Heap} {us} {l : Addr} (k : Lc Z "range_iterator" h h') (x : Wds Z h us l) : Wds Z h' us l := let ⟨z, items, n, a, b⟩ := x; ⟨z, items, n, k _ _ z a .list (.inl (lne (by decide))), b.lcR k⟩
/-- iterators -/
structure LIt (h₀ : Heap) (Z : Addr → Prop) (h : Heap) (it l : Addr) (i : Nat) : Prop where
  z : Z it
  n : h₀.get? it = none
  o : ∃ o, h.get? it = some o ∧ o.cls = .type "list_iterator" ∧ o.data = .fields #[.ref l, .int i 0]
def WIt (h₀ : Heap) (Z : Addr → Prop) (h : Heap) (it : Addr) (u : W) (i : Nat) : Prop := ∃ l, LIt h₀ Z h it l i ∧ Wd Z h u l
def WsIt (h₀ : Heap) (Z : Addr → Prop) (h : Heap) (it : Addr) (u : List W) (i : Nat) : Prop := ∃ l, LIt h₀ Z h it l i ∧ Wds Z h u l
structure RIt (h₀ : Heap) (Z : Addr → Prop) (h : Heap) (it : Addr) (i k : Nat) : Prop where
  z : Z it
  n : h₀.get? it = none
  o : IsRangeIter h it i k 1
theorem kp_it {o : Obj} {c : String} {vs} (hc : o.cls = .type c) (hd : o.data = .fields vs) : Kp o := ⟨(fun es n e => by rw [hd] at e; cases e), .inl fun e => by rw [hc] at e; cases e⟩
theorem LIt.lk {h₀ : Heap} {Z : Addr → Prop} {h h' : Heap} {it l : Addr} {i : Nat} (k : Lk Z h h') (x : LIt h₀ Z h it l i) : LIt h₀ Z h' it l i := let ⟨o, a, b, c⟩ := x.o; ⟨x.z, x.n, o, k _ _ x.z a (kp_it b c), b, c⟩
theorem LIt.lcR {h₀ : Heap} {Z : Addr → Prop} {h h' : Heap} {it l : Addr} {i : Nat} (k : Lc Z "range_iterator" h h') (x : LIt h₀ Z h it l i) : LIt h₀ Z h' it l i := let ⟨o, a, b, c⟩ := x.o; ⟨x.z, x.n, o, k _ _ x.z a (kp_it b c) (.inl (by rw [b]; intro e; injection e with e; exact absurd e (by decide))), b, c⟩
theorem WIt.lk {h₀ : Heap} {Z : Addr → Prop} {h h' : Heap} {it : Addr} {u : W} {i : Nat} (k : Lk Z h h') (x : WIt h₀ Z h it u i) : WIt h₀ Z h' it u i := let ⟨l, a, b⟩ := x; ⟨l, a.lk k, b.lk k⟩
theorem WsIt.lk {h₀ : Heap} {Z : Addr → Prop} {h h' : Heap} {it : Addr} {u : List W} {i : Nat} (k : Lk Z h h') (x : WsIt h₀ Z h it u i) : WsIt h₀ Z h' it u i := let ⟨l, a, b⟩ := x; ⟨l, a.lk k, b.lk k⟩
theorem WsIt.lcR {h₀ : Heap} {Z : Addr → Prop} {h h' : Heap} {it : Addr} {u : List W} {i : Nat} (k : Lc Z "range_iterator" h h') (x : WsIt h₀ Z h it u i) : WsIt h₀ Z h' it u i := let ⟨l, a, b⟩ := x; ⟨l, a.lcR k, b.lcR k⟩
theorem RIt.lk {h₀ : Heap} {Z : Addr → Prop} {h h' : Heap} {it : Addr} {i k : Nat} (kk : Lk Z h h') (x : RIt h₀ Z h it i k) : RIt h₀ Z h' it i k := ⟨x.z, x.n, kk _ _ x.z x.o (kp_it rfl rfl)⟩
section
variable {prog : Program} {w : World} {A : Around} {E : Value → Shared → Prop} {h : Heap} {g : Array GenState} {d : Drawn} {t : Nat} {os : OsState} {env : Env} {Z : Addr → Prop} {h₀ : Heap} {L : Addr} {m : Str → Option Value}
theorem Fx.newAddr {p} (F : Fx p Z h₀ L h m) {a : Addr} (ha : h.objs.size ≤ a) : h₀.get? a = none := Heap.get?_none_of_le (Nat.le_trans F.ev.2 ha)
/-- a plain object is laid -/
theorem Wd.isList {u : W} {a : Addr} (hu : Wd Z h u a) : ∃ items, h.IsList a items ∧ Ints items.toList u := let ⟨_, items, n, x, y⟩ := hu; ⟨items, x.isList, y⟩
theorem pyIter_w {u : W} {a : Addr} {Q : Value → Shared → Prop} (F : Fx w.params Z h₀ L h m) (hu : Wd Z h u a)
    (hq : ∀ h' it, Fx w.params Z h₀ L h' m → Lk Z h h' → WIt h₀ Z h' it u 0 → h.get? it = none → Q (.ref it) ⟨h', g, d, t, os⟩) : wpAny (model prog w) A (pyIter (.ref a)) Q E ⟨h, g, d, t, os⟩ := by
  obtain ⟨items, x, y⟩ := hu.isList
  obtain ⟨F', k⟩ := F.push { cls := .type "list_iterator", data := .fields #[.ref a, .int 0 0] }
  exact wpAny_pyIter_list (s := ⟨h, g, d, t, os⟩) x (hq _ _ F' k ⟨a, ⟨F.zf _ (Nat.le_refl _), F.newAddr (Nat.le_refl _), _, Heap.get?_push_size _ rfl, rfl, rfl⟩, hu.lk k⟩ (Heap.get?_none_of_le (Nat.le_refl _)))
theorem pyIter_it {u : W} {a : Addr} {i : Nat} {Q : Value → Shared → Prop} (hu : WIt h₀ Z h a u i) (hq : Q (.ref a) ⟨h, g, d, t, os⟩) : wpAny (model prog w) A (pyIter (.ref a)) Q E ⟨h, g, d, t, os⟩ := by
  obtain ⟨l, x, y⟩ := hu
  exact wpAny_pyIter_listiter (s := ⟨h, g, d, t, os⟩) x.o hq
theorem iter_w {u : W} {a : Addr} {Q : Value → Shared → Prop} (F : Fx w.params Z h₀ L h m) (hu : Wd Z h u a)
    (hq : ∀ h' it, Fx w.params Z h₀ L h' m → Lk Z h h' → WIt h₀ Z h' it u 0 → h.get? it = none → Q (.ref it) ⟨h', g, d, t, os⟩) : wpAny (model prog w) A (call (.builtin "iter") [.ref a]) Q E ⟨h, g, d, t, os⟩ := by
  refine Calls.call_function_entry kind_it plain_it entry_it (args_it _) ?_
  unfold Builtin.«iter»
  refine wpAny_bind (m := someArgs "iter" 1 2 _) (wpAny_pure ?_)
  refine wpAny_bind (pyIter_w F hu fun h' it F' k x hn => ?_)
  exact wpAny_pure ⟨_, rfl, hq _ _ F' k x hn⟩
theorem next_w {u : W} {it : Addr} {i : Nat} {Q : Option Value → Shared → Prop} (F : Fx w.params Z h₀ L h m) (hu : WIt h₀ Z h it u i) (hi : i < u.length)
    (hq : ∀ h' tk, Fx w.params Z h₀ L h' m → Lc Z "list_iterator" h h' → WIt h₀ Z h' it u (i + 1) → Q (some (.int u[i] tk)) ⟨h', g, d, t, os⟩) : wpAny (model prog w) A (pyNext (.ref it)) Q E ⟨h, g, d, t, os⟩ := by
  obtain ⟨l, ⟨z, hn, o, ho, hc, hd⟩, hl⟩ := hu
  obtain ⟨items, x, y⟩ := hl.isList
  obtain ⟨tk, ht⟩ := y.get i hi
  rw [Array.getElem?_toList] at ht
  refine wpAny_pyNext_list_item (s := ⟨h, g, d, t, os⟩) ⟨o, ho, hc, hd⟩ x ht fun h' hit hs => ?_
  obtain ⟨F', k⟩ := F.upd ho hn (fun es n e => by rw [hd] at e; cases e) (fun es n e => by rw [hd] at e; cases e) ⟨fun e => by rw [hc] at e; injection e with e; exact absurd e (by decide), fun e => by rw [hc] at e; cases e⟩ hs.extBut
  have k' := k.lc ⟨o, ho, hc, _, hd⟩
  exact hq _ _ F' k' ⟨l, ⟨z, hn, hit⟩, hl.lcL k'⟩
theorem next_we {u : W} {it : Addr} {i : Nat} {Q : Option Value → Shared → Prop} (F : Fx w.params Z h₀ L h m) (hu : WIt h₀ Z h it u i) (hi : ¬ i < u.length) (hh : A.handled = none)
    (hq : ∀ h', Fx w.params Z h₀ L h' m → Lc Z "list_iterator" h h' → Q none ⟨h', g, d, t, os⟩) : wpAny (model prog w) A (pyNext (.ref it)) Q E ⟨h, g, d, t, os⟩ := by
  obtain ⟨l, ⟨z, hn, o, ho, hc, hd⟩, hl⟩ := hu
  obtain ⟨items, x, y⟩ := hl.isList
  have e := y.length
  simp only [Array.length_toList] at e
  refine wpAny_pyNext_list_end (s := ⟨h, g, d, t, os⟩) hh ⟨o, ho, hc, hd⟩ x (Array.getElem?_eq_none (by lia)) fun h' hs => ?_
  obtain ⟨F', k⟩ := F.upd ho hn (fun es n e => by rw [hd] at e; cases e) (fun es n e => by rw [hd] at e; cases e) ⟨fun e => by rw [hc] at e; injection e with e; exact absurd e (by decide), fun e => by rw [hc] at e; cases e⟩ hs
  exact hq _ F' (k.lc ⟨o, ho, hc, _, hd⟩)
theorem next_wse {u : List W} {it : Addr} {i : Nat} {Q : Option Value → Shared → Prop} (F : Fx w.params Z h₀ L h m) (hu : WsIt h₀ Z h it u i) (hi : ¬ i < u.length) (hh : A.handled = none)
    (hq : ∀ h', Fx w.params Z h₀ L h' m → Lc Z "list_iterator" h h' → Q none ⟨h', g, d, t, os⟩) : wpAny (model prog w) A (pyNext (.ref it)) Q E ⟨h, g, d, t, os⟩ := by
  obtain ⟨l, ⟨z, hn, o, ho, hc, hd⟩, hl⟩ := hu
  obtain ⟨zz, items, n, x, y⟩ := id hl
  have e := y.length
  simp only [Array.length_toList] at e
  refine wpAny_pyNext_list_end (s := ⟨h, g, d, t, os⟩) hh ⟨o, ho, hc, hd⟩ x.isList (Array.getElem?_eq_none (by lia)) fun h' hs => ?_
  obtain ⟨F', k⟩ := F.upd ho hn (fun es n e => by rw [hd] at e; cases e) (fun es n e => by rw [hd] at e; cases e) ⟨fun e => by rw [hc] at e; injection e with e; exact absurd e (by decide), fun e => by rw [hc] at e; cases e⟩ hs
  exact hq _ F' (k.lc ⟨o, ho, hc, _, hd⟩)
/-- a range -/
def Rg (Z : Addr → Prop) (h : Heap) (r : Addr) (k : Nat) : Prop := ∃ a b c, IsRange h r 0 k 1 a b c
theorem range_new {k : Int} {tk : Tok} {Q : Value → Shared → Prop} (F : Fx w.params Z h₀ L h m) (hk : 0 ≤ k)
    (hq : ∀ h' r tk, Fx w.params Z h₀ L h' m → Lk Z h h' → Rg Z h' r k.toNat → Q (.ref r) ⟨h', g, d, tk, os⟩) : wpAny (model prog w) A (call (.type "range") [.int k tk]) Q E ⟨h, g, d, t, os⟩ := by
  obtain ⟨F', kk⟩ := F.push { cls := .type "range", data := .fields #[.int 0 t, .int k tk, .int 1 (t + 1)] }
  exact call_range_1 (s := ⟨h, g, d, t, os⟩) (hq _ _ _ F' kk ⟨t, tk, t + 1, by rw [Int.toNat_of_nonneg hk]; exact IsRange.new ..⟩)
theorem pyIter_rg {r : Addr} {k : Nat} {Q : Value → Shared → Prop} (F : Fx w.params Z h₀ L h m) (hr : Rg Z h r k) (hk : k ≤ 100000)
    (hq : ∀ h' it, Fx w.params Z h₀ L h' m → Lk Z h h' → RIt h₀ Z h' it 0 k → h.get? it = none → Q (.ref it) ⟨h', g, d, t, os⟩) : wpAny (model prog w) A (pyIter (.ref r)) Q E ⟨h, g, d, t, os⟩ := by
  obtain ⟨a, b, c, x⟩ := hr
  refine wpAny_pyIter_range (s := ⟨h, g, d, t, os⟩) x (small_one (by decide) (by decide) (by lia) (by lia)) ?_
  obtain ⟨F', kk⟩ := F.push { cls := .type "range_iterator", data := .fields #[rawInt 0, rawInt (Builtin.Range.rangeSize 0 k 1), rawInt 1] }
  refine hq _ _ F' kk ⟨F.zf _ (Nat.le_refl _), F.newAddr (Nat.le_refl _), ?_⟩ (Heap.get?_none_of_le (Nat.le_refl _))
  have e : Builtin.Range.rangeSize 0 k 1 = k := by rw [rangeSize_one]; split <;> lia
  rw [e]
  exact Heap.get?_push_size _ rfl
theorem next_r {it : Addr} {i k : Nat} {Q : Option Value → Shared → Prop} (F : Fx w.params Z h₀ L h m) (hu : RIt h₀ Z h it i (k + 1))
    (hq : ∀ h' tk tk', Fx w.params Z h₀ L h' m → Lc Z "range_iterator" h h' → RIt h₀ Z h' it (i + 1) k → Q (some (.int i tk)) ⟨h', g, d, tk', os⟩) : wpAny (model prog w) A (pyNext (.ref it)) Q E ⟨h, g, d, t, os⟩ := by
  obtain ⟨z, hn, ho⟩ := hu
  refine wpAny_pyNext_range_item (s := ⟨h, g, d, t, os⟩) ho (by lia) fun h' hit hs => ?_
  obtain ⟨F', kk⟩ := F.upd ho hn (fun es n e => nomatch e) (fun es n e => nomatch e) ⟨fun e => by injection e with e; exact absurd e (by decide), fun e => nomatch e⟩ hs.extBut
  refine hq _ _ _ F' (kk.lc ⟨_, ho, rfl, _, rfl⟩) ⟨z, hn, ?_⟩
  have e1 : ((k + 1 : Nat) : Int) - 1 = (k : Nat) := by lia
  rw [e1] at hit
  exact hit
theorem next_re {it : Addr} {i : Nat} {Q : Option Value → Shared → Prop} (F : Fx w.params Z h₀ L h m) (hu : RIt h₀ Z h it i 0) (hh : A.handled = none)
    (hq : ∀ h', Fx w.params Z h₀ L h' m → Lc Z "range_iterator" h h' → Q none ⟨h', g, d, t, os⟩) : wpAny (model prog w) A (pyNext (.ref it)) Q E ⟨h, g, d, t, os⟩ := by
  obtain ⟨z, hn, ho⟩ := hu
  refine wpAny_pyNext_range_end (s := ⟨h, g, d, t, os⟩) hh ho (by lia) fun h' hs => ?_
  obtain ⟨F', kk⟩ := F.upd ho hn (fun es n e => nomatch e) (fun es n e => nomatch e) ⟨fun e => by injection e with e; exact absurd e (by decide), fun e => nomatch e⟩ hs
  exact hq _ F' (kk.lc ⟨_, ho, rfl, _, rfl⟩)
end
end Mine
end

section
-- part U8
open PySem PySem.W PyProof.Rows
set_option maxRecDepth 100000
set_option maxHeartbeats 1000000
namespace Mine
section
variable {prog : Program} {w : World} {A : Around} {E : Value → Shared → Prop} {h : Heap} {g : Array GenState} {d : Drawn} {t : Nat} {os : OsState} {env : Env} {Z : Addr → Prop} {h₀ : Heap} {L : Addr} {m : Str → Option Value}
theorem miss_obj (p : Params) : List.lookup 36 (KT p) = some { cls := .type "object", data := .plain } := by kernel_rfl
theorem is_miss {ps : List W} {b : Addr} {Q : Value → Shared → Prop} (F : Fx w.params Z h₀ L h m) (hb : Wds Z h ps b) (hq : Q (.bool false) ⟨h, g, d, t, os⟩) :
    wpAny (model prog w) A (compareOp .Is (.ref b) (.ref 36)) Q E ⟨h, g, d, t, os⟩ := by
  obtain ⟨z, items, n, x, y⟩ := hb
  have k := F.kx 36 _ (miss_obj _)
  have hne : (b == 36) = false := by
    rw [beq_eq_false_iff_ne]; rintro rfl
    have q := x.symm.trans k; injection q with q; injection q with q; injection q with q; exact absurd q (by decide)
  show wpAny _ _ (do return Value.bool (← isSame (.ref b) (.ref 36))) _ _ _
  refine wpAny_bind ?_
  unfold isSame
  dsimp only
  rw [hne]
  exact wpAny_bind (wpAny_load (s := ⟨h, g, d, t, os⟩) x (wpAny_bind (wpAny_load (s := ⟨h, g, d, t, os⟩) k (wpAny_pure (wpAny_pure hq)))))
def parR : Arguments := { posonlyargs := [], args := [⟨Str.ofString "function", none, { line := 38, col := 11, endLine := 38, endCol := 19 }⟩, ⟨Str.ofString "sequence", none, { line := 38, col := 21, endLine := 38, endCol := 29 }⟩, ⟨Str.ofString "initial", none, { line := 38, col := 31, endLine := 38, endCol := 38 }⟩], vararg := none, kwonlyargs := [], kw_defaults := [], kwarg := none, defaults := [.Name (Str.ofString "_initial_missing") { line := 38, col := 39, endLine := 38, endCol := 55 }] }
theorem bindR {s : Shared} {o : Obj} (fd : FuncData) (v1 v2 v3 : Value) (ho : s.heap.get? 37 = some o) (hs : o.data = .seq #[.ref 36] 0) :
    BindsTo s { fd with params := parR, defaults := .ref 37 } ⟨[v1, v2, v3], []⟩ [(Str.ofString "function", v1), (Str.ofString "sequence", v2), (Str.ofString "initial", v3)] :=
  BindsTo.of_defaults (T := 37) rfl ho hs rfl rfl
theorem fd44 (p : Params) : fdOf p 44 = { fdOf p 44 with params := parR, defaults := .ref 37 } := by kernel_rfl
theorem bind44 {s : Shared} (v1 v2 v3 : Value) (K : Frag.In (KT w.params) s.heap) : BindsTo s (fdOf w.params 44) ⟨[v1, v2, v3], []⟩ [(Str.ofString "function", v1), (Str.ofString "sequence", v2), (Str.ofString "initial", v3)] := by
  rw [fd44]
  exact bindR _ _ _ _ (o := { cls := .type "tuple", data := .seq #[.ref 36] 0 }) (K 37 _ (by kernel_rfl)) rfl
theorem slc_from {α : Type} (w : List α) (i : Nat) : (w.take (phi none w.length)).drop (plo (some (i : Int)) w.length) = w.drop i := by
  unfold phi plo
  simp only [List.take_length]
  rw [if_neg (by lia)]
  by_cases hi : i ≤ w.length
  · congr 1; lia
  · rw [List.drop_of_length_le (by lia), List.drop_of_length_le (by lia)]
theorem slc_upto {α : Type} (w : List α) (i : Nat) : (w.take (phi (some (i : Int)) w.length)).drop (plo none w.length) = w.take i := by
  unfold phi plo
  simp only [List.drop_zero]
  rw [if_neg (by lia)]
  by_cases hi : i ≤ w.length
  · congr 1; lia
  · rw [List.take_of_length_le (by lia), List.take_of_length_le (by lia)]
end
end Mine
end

section
-- part KF
open PySem PySem.W PyProof.Rows
set_option maxRecDepth 100000
set_option maxHeartbeats 1000000
namespace Mine
section
variable {prog : Program} {w : World} {A : Around} {E : Value → Shared → Prop} {h : Heap} {g : Array GenState} {d : Drawn} {t : Nat} {os : OsState} {env : Env} {Z : Addr → Prop} {h₀ : Heap} {L : Addr} {m : Str → Option Value}
theorem fcallC {a : Addr} {x : Str} {v : Value} {body : List Stmt} {Q : Value → Shared → Prop} (G : Gd w.params h) (hz : ∀ b, h.objs.size ≤ b → Z b)
   (ho : List.lookup a (KT w.params) = some { cls := .type "function", data := .func (fdOf w.params a) }) (hroom : A.depth < recursionLimit) (hcd : h.CodeRec (fdOf w.params a).code (fdOf w.params a).qualname)
   (hbody : (fdOf w.params a).body = .stmts body) (hbind : bindArgs (fdOf w.params a) ⟨[v], []⟩ = pure [(x, v)])
   (hx : (fdOf w.params a).scope.names.lookup x = some .cell) (hcells : ∀ n, cellsFrom n (fdOf w.params a).scope.names [] = [(x, n)]) (hk : (fdOf w.params a).scope.kind = .function)
   (hco : (fdOf w.params a).scope.isCoroutine = false) (hgen : (fdOf w.params a).scope.isGenerator = false) (hg : (fdOf w.params a).globals = 3) (hb : (fdOf w.params a).builtins = 0) (hclo : (fdOf w.params a).closure = [])
   (hq : ∀ h₁ L c, Fx w.params Z h L h₁ (fun _ => none) → Lk Z h h₁ → h₁.IsCell c (some v) → Z c → h.get? c = none → ∀ t' env, EI w.params a L env → env.cells = [(x, c)] →
     wpAny (model prog w) (A.deeper env) (execs body env) (fun f s' => Q (match f with | .ret v => v | _ => .none) s') (fun _ _ => False) ⟨h₁, g, d, t', os⟩) :
   wpAny (model prog w) A (call (.ref a) [v]) Q E ⟨h, g, d, t, os⟩ := by
  have hce : (callEnvC (fdOf w.params a) h.objs.size a).cells = [(x, h.objs.size + 1)] := hcells _
  have hkx : (callEnvC (fdOf w.params a) h.objs.size a).kindOf x = some .cell := hx
  refine wpAny_call (codeAny_call_cells (s := ⟨h, g, d, t, os⟩) (binds := [(x, v)]) hroom (G.k a _ ho) rfl (noLim G.k) hcd hbody hbind hclo (fun y hy => ?_) (fun s₁ X => ?_) hco hgen hk)
  · rw [List.mem_singleton] at hy; subst hy
    exact .inr ⟨hx, by rw [hcells]; simp⟩
  · have eL : bindL (callEnvC (fdOf w.params a) h.objs.size a).kindOf [(x, v)] (fun _ => none) = fun _ => none := by
      unfold bindL bindL; rw [if_neg]; rw [hkx]; decide
    have eC : bindC (callEnvC (fdOf w.params a) h.objs.size a).kindOf [(x, v)] (fun _ => none) = fun y => if y = x then some v else none := by
      unfold bindC bindC; rw [if_neg]; rw [hkx]; decide
    rw [eL, eC, hce] at X
    obtain ⟨⟨⟨h₁, tk, rfl⟩, hns, hkeep, hfr⟩, hcell, hap, hab⟩ := X
    have hN : h₁.Ns h.objs.size (fun _ => none) := hns
    have hK : ∀ b o, h.get? b = some o → h₁.get? b = some o := hkeep
    have hsz : h.objs.size ≤ h₁.objs.size := Nat.le_of_lt hN.lt
    have hc := hcell x (h.objs.size + 1) (by simp)
    rw [if_pos rfl] at hc
    refine wpAny_mono (hq h₁ h.objs.size (h.objs.size + 1) ⟨hN, G.k, G.t.nd fun b o e _ _ => hK b o e, .of hK hsz, Heap.get?_none_of_le (Nat.le_refl _), Nat.le_refl _, h.objs.size, .inl rfl, fun b hb => hz b (Nat.le_of_lt hb)⟩ (fun b o _ e _ => hK b o e) hc (hz _ (Nat.le_succ _))
      (Heap.get?_none_of_le (Nat.le_succ _)) tk _ ⟨hk, hg, hb, rfl, fun e => e, rfl, rfl⟩ hce) (fun _ _ z => z) fun _ _ z => z.elim
end
end Mine
end

section
-- part IV
open PySem PySem.W PyProof.Rows
namespace Mine
/-- a loop's invariant under a name: the goal stays small -/
theorem inv_of (P : Nat → Shared → Prop) : ∃ I : Nat → Shared → Prop, ∀ n s, I n s ↔ P n s := ⟨P, fun _ _ => Iff.rfl⟩
end Mine
end

section
-- part NX
open PySem PySem.W PyProof.Rows
set_option maxRecDepth 100000
set_option maxHeartbeats 1000000
namespace Mine
/-- a plain dict of names -/
def Nx (h : Heap) (N : Addr) (m : Str → Option Value) : Prop := ∃ es ep, h.get? N = some { cls := .type "dict", data := .dict es ep } ∧ StrKeys es ∧ UniqKeys es ∧ ∀ x, nsFind es x = m x
theorem Nx.ns {h N m} (x : Nx h N m) : h.Ns N m := let ⟨es, ep, a, b, _, e⟩ := x; ⟨_, es, ep, a, rfl, b, e⟩
theorem Nx.keep {h h' : Heap} {N m} (x : Nx h N m) (k : ∀ o, h.get? N = some o → h'.get? N = some o) : Nx h' N m := let ⟨es, ep, a, r⟩ := x; ⟨es, ep, k _ a, r⟩
theorem key_push (name : Str) (t : Nat) (y : Str) : (Value.str name t).isStr y = decide (y = name) := by
  show (name == y) = decide (y = name)
  by_cases h : y = name
  · subst h; simp
  · have : ¬ name = y := fun e => h e.symm
    simp [h, this]
theorem nsSetX {M : Model} {A : Around} {E : Value → Shared → Prop} {h : Heap} {g d t os} {N : Addr} {m : Str → Option Value} {name : Str} {v : Value} {Q : Unit → Shared → Prop} (X : Nx h N m)
    (hq : ∀ h', Nx h' N (fun x => if x = name then some v else m x) → Heap.SameBut N h h' → Q () ⟨h', g, d, t + 1, os⟩) : wpAny M A (nsSet N name v) Q E ⟨h, g, d, t, os⟩ := by
  obtain ⟨es, ep, ho, hk, hu, hm⟩ := X
  intro Γ p hΓ
  have hany : es.any (·.refKey) = false := by
    rw [Array.any_eq_false']; intro e he; obtain ⟨n, t, h⟩ := hk e he; simp [DictEntry.refKey, h]
  simp only [nsSet, strHash, Sem.wp_bind', Sem.wp_cmd_ask, Sem.wp_pure', Sem.wp_cmd_mkText]
  rw [Sem.wp_loadPart_of (s := ⟨h, g, d, t + 1, os⟩) (o := { cls := .type "dict", data := .dict es ep }) (h := ho)]
  simp only [aRefKeyMayBeTheName_at, hany, Bool.and_false, Bool.false_eq_true, if_false, Sem.wp_cmd_updatePart]
  refine ⟨by show (h.get? N).isSome = true; rw [ho]; rfl, ?_⟩
  refine hq _ ?_ (Heap.SameBut.update ..)
  cases hi : es.findIdx? (·.key.isStr name) with
  | some i =>
    refine ⟨es.modify i fun e => { e with val := v }, ep, (Heap.get?_update_self _ ho (by simp only [Obj.putName_eq, Obj.putNameByArray, hi]; rfl)).trans (by simp only [Obj.putName_eq, Obj.putNameByArray, hi]), hk.modify _ _, hu.modify _ _, fun x => ?_⟩
    show _ = if x = name then some v else m x
    rw [← hm]; exact findBy_modify (fun n v => v.isStr n) Value.isStr_inj es name x v i hi
  | none =>
    refine ⟨es.push ⟨if name.cps.isEmpty = true then 0 else reduceHash (M.w.params.strHash name.cps), .str name t, v⟩, ep + 1, (Heap.get?_update_self _ ho (by simp only [Obj.putName_eq, Obj.putNameByArray, hi]; rfl)).trans (by simp only [Obj.putName_eq, Obj.putNameByArray, hi]), hk.push _ _ _ _, hu.push _ _ _ _ hi, fun x => ?_⟩
    show _ = if x = name then some v else m x
    rw [← hm]
    exact findBy_push (fun n v => v.isStr n) es name x _ _ v (key_push name _) hi
end Mine
end

section
-- part KG
open PySem PySem.W PyProof.Rows
set_option maxRecDepth 100000
set_option maxHeartbeats 1000000
namespace Mine
theorem gb_bc (p : Params) : mbl p (Str.ofString "__build_class__") = some (.builtin "__build_class__") := by kernel_rfl
theorem gl_bs (p : Params) : mgl p (Str.ofString "__builtins__") = some (.ref 4) := by kernel_rfl
theorem gl_nm (p : Params) : mgl p (Str.ofString "__name__") = some (.str (Str.ofString "law_sn0002_01") 229) := by kernel_rfl
theorem kt4 (p : Params) : List.lookup 4 (KT p) = some (objAt p 4) := by kernel_rfl
theorem kt4d (p : Params) : (objAt p 4).dict = some 0 ∧ (objAt p 4).cls = .type "module" ∧ (objAt p 4).data = .plain := by exact ⟨by kernel_rfl, by kernel_rfl, by kernel_rfl⟩
def TB (Z : Addr → Prop) (h : Heap) (B : Addr) (items : List Value) : Prop := Z B ∧ h.get? B = some { cls := .type "tuple", data := .seq items.toArray }
theorem TB.lk {Z : Addr → Prop} {h h' : Heap} {B : Addr} {items : List Value} (k : Lk Z h h') (x : TB Z h B items) : TB Z h' B items := ⟨x.1, k _ _ x.1 x.2 ⟨(fun _ _ e => nomatch e), .inl fun e => nomatch e⟩⟩
def CL (Z : Addr → Prop) (h : Heap) (c : Addr) (v : Value) : Prop := Z c ∧ ∃ o, h.get? c = some o ∧ o.data = .cell (some v)
theorem CL.lk {Z : Addr → Prop} {h h' : Heap} {c : Addr} {v : Value} (k : Lk Z h h') (x : CL Z h c v) : CL Z h' c v := let ⟨z, o, a, b⟩ := x; ⟨z, o, k _ _ z a ⟨(fun _ _ q => by rw [b] at q; cases q), .inr fun _ q => by rw [b] at q; cases q⟩, b⟩
theorem CL.is {Z : Addr → Prop} {h : Heap} {c : Addr} {v : Value} (x : CL Z h c v) : h.IsCell c (some v) := let ⟨_, o, a, b⟩ := x; ⟨o, a, b⟩
section
variable {prog : Program} {w : World} {A : Around} {E : Value → Shared → Prop} {h : Heap} {g : Array GenState} {d : Drawn} {t : Nat} {os : OsState} {env : Env} {Z : Addr → Prop} {h₀ : Heap} {L : Addr} {m : Str → Option Value} {M : Model}
theorem ngB {a : Addr} {x : Str} {r : Option Value} {Q : Option Value → Shared → Prop} (F : Fx w.params Z h₀ L h m) (I : EI w.params a L env) (hv : mbl w.params x = r) (hq : Q r ⟨h, g, d, t, os⟩) : wpAny M A (nsGet env.builtins x) Q E ⟨h, g, d, t, os⟩ := by
  rw [I.bs]; exact wpAny_nsGet (s := ⟨h, g, d, t, os⟩) (bNs F.kx) (hv ▸ hq)
theorem nwT {items : List Value} {Q : Value → Shared → Prop} (F : Fx w.params Z h₀ L h m) (hsz : items.length ≤ sizeLine)
    (hq : ∀ h' B, Fx w.params Z h₀ L h' m → Lk Z h h' → TB Z h' B items → h.get? B = none → Q (.ref B) ⟨h', g, d, t, os⟩) : wpAny M A (newTuple items) Q E ⟨h, g, d, t, os⟩ := by
  obtain ⟨F', k⟩ := F.push { cls := .type "tuple", data := .seq items.toArray }
  exact wpAny_newTuple (s := ⟨h, g, d, t, os⟩) (hq _ _ F' k ⟨F.zf _ (Nat.le_refl _), Heap.get?_push_size _ rfl⟩ (Heap.get?_none_of_le (Nat.le_refl _))) hsz
theorem mkT {x : Str} {Q : Value → Shared → Prop} (hq : Q (.str x t) ⟨h, g, d, t + 1, os⟩) : wpAny M A (mkText x) Q E ⟨h, g, d, t, os⟩ := wpAny_mkText hq
end
end Mine
end

section
-- part KP
open PySem PySem.W PyProof.Rows PySem.W.X
set_option maxRecDepth 100000
set_option maxHeartbeats 8000000
namespace Mine
section
local macro_rules | `(tactic| x_close) => `(tactic| (refine ⟨_, _, _, rfl, rfl, mem_keep (by assumption), mem_at (by assumption) 0 rfl⟩))
theorem r_pget {w : World} {A : Around} {h : Heap} {d : Drawn} {t : Nat} {os : OsState} (KX : Frag.In (KT w.params) h) (hu : A.units < 5000) (hd : A.depth < 500) :
   wpAny (model Challenge.pw_sn0002_01 w) A (PySem.call (.builtin "classmethod_descriptor.__get__") [.builtin "type.__prepare__", .none, .type "type"])
     (fun v s' => ∃ h' x tk, v = .ref x ∧ s' = ⟨h', #[], d, tk, os⟩ ∧ (∀ b o, h.get? b = some o → h'.get? b = some o) ∧ h'.get? x = some { cls := .type "builtin_function_or_method", data := .fields #[.builtin "type.__prepare__", .type "type"] } ∧ h.get? x = none) (fun _ _ => False) ⟨h, #[], d, t, os⟩ := by
  x_run
theorem r_prep {w : World} {A : Around} {h : Heap} {d : Drawn} {t : Nat} {os : OsState} {x B : Addr} {tn : Nat} (KX : Frag.In (KT w.params) h) (hu : A.units < 5000) (hd : A.depth < 500)
   (hX : h.get? x = some { cls := .type "builtin_function_or_method", data := .fields #[.builtin "type.__prepare__", .type "type"] }) (hB : h.get? B = some { cls := .type "tuple", data := .seq #[.type "object"] 0 }) :
   wpAny (model Challenge.pw_sn0002_01 w) A (PySem.call (.ref x) [.str (S "K") tn, .ref B] [])
     (fun v s' => ∃ h' x tk, v = .ref x ∧ s' = ⟨h', #[], d, tk, os⟩ ∧ (∀ b o, h.get? b = some o → h'.get? b = some o) ∧ h'.get? x = some { cls := .type "dict", data := .dict #[] } ∧ h.get? x = none) (fun _ _ => False) ⟨h, #[], d, t, os⟩ := by
  x_run
end
end Mine
end

section
-- part KQ
open PySem PySem.W PyProof.Rows
set_option maxRecDepth 100000
set_option maxHeartbeats 1000000
namespace Mine
section
variable {prog : Program} {w : World} {A : Around} {E : Value → Shared → Prop} {s : Shared} {K : Frag} {c mc : Value} {name : Str}
theorem cls_open2 {r : CFound} {Q : Option Value → Shared → Prop} {hook : Option Value} (X : K.In s.heap) (ho : Looks (model prog w) s.heap (opaqueClassAbove c) none) (ht : Looks (model prog w) s.heap (typeOf c) mc)
    (hga : findIn K mc "__getattribute__" = some (some (.builtin "type.__getattribute__"))) (hb : Looks (model prog w) s.heap (hookBefore mc) hook) (hi : subIn K mc (.type "type") = some true) (e : findCls K c mc name = some r)
    (h : wpAny (model prog w) A.in1 r.run (fun fin s' => match fin with | .done (.ret v) => wpAny (model prog w) A (handedOut v) (fun v s => Q (some v) s) (fun _ _ => False) s' | _ => False) (fun _ _ => False) { s with toks := s.toks + 1 }) :
    wpAny (model prog w) A (getAttr? c name) Q E s := by
  unfold getAttr? getAttrBy? getAttrBy
  refine wpAny_bind (wpAny_mkText (wpAny_bind (wpAny_attempt (wpAny_holding (wpAny_bind (ht _ _ _ _ (fun _ _ e => e) (wpAny_bind (looks_findIn X hga _ _ _ _ (fun _ _ e => e) ?_))))))))
  dsimp only
  rw [show (onTheHeap mc && Value.builtin "type.__getattribute__" == Value.builtin "object.__getattribute__") = false from by rw [show (Value.builtin "type.__getattribute__" == Value.builtin "object.__getattribute__") = false from by decide +kernel, Bool.and_false], if_neg (by decide)]
  unfold getAttrByItsOwn
  refine wpAny_bind (hb _ _ _ _ (fun _ _ e => e) (wpAny_bind (wpAny_attempt (wpAny_holding ?_))))
  unfold callGetattribute
  rw [show (false && onTheHeap (Value.builtin "type.__getattribute__")) = false from rfl, if_neg (by decide)]
  unfold boundAndCalled
  rw [KF.slot_tga.bind]
  refine wpAny_bind (wpAny_pure ?_)
  show wpAny _ _ (call (.builtin "type.__getattribute__") [c, .str name s.toks]) _ _ _
  refine wpAny_call ?_
  refine codeAny_call_builtin KF.slot_tga.plain KF.entry_tga ?_
  refine @check_slot (model prog w) _ _ { s with toks := s.toks + 1 } "type.__getattribute__" "type" "__getattribute__" c [.str name s.toks] [] _ (by decide +kernel) (by decide +kernel) (ht.andThen (looks_subIn X hi)) (KF.args_tga c (.str name s.toks)) ?_
  refine tga_run (s := { s with toks := s.toks + 1 }) X ho ht e (wpAny_mono h (fun fin s' z => ?_) fun _ _ z => z.elim)
  rcases fin with (_ | _ | _ | _) | _ <;> first | exact wpAny_mono z (fun _ _ z => wpAny_pure z) (fun _ _ z => z.elim) | exact z.elim
end
theorem r_gprep {w : World} {A : Around} {E : Value → Shared → Prop} {h : Heap} {d : Drawn} {t : Nat} {os : OsState} {Q : Option Value → Shared → Prop} (KX : Frag.In (KT w.params) h) (hu : A.units < 4900) (hd : A.depth < 490)
   (hq : ∀ (h' : Heap) (x : Addr) (tk : Nat), (∀ b o, h.get? b = some o → h'.get? b = some o) → h'.get? x = some { cls := .type "builtin_function_or_method", data := .fields #[.builtin "type.__prepare__", .type "type"] } → Q (some (.ref x)) ⟨h', #[], d, tk, os⟩) :
   wpAny (model Challenge.pw_sn0002_01 w) A (getAttr? (.type "type") (Str.ofString "__prepare__")) Q E ⟨h, #[], d, t, os⟩ := by
  have X : Frag.In [] h := fun a o e => by cases e
  have hstub : opaqueClassAbove (.type "type") = pure none := by unfold opaqueClassAbove; dsimp only; rw [show Manifest.isStub "type" = false by decide +kernel]; rfl
  have L0 : Looks (model Challenge.pw_sn0002_01 w) h (typeOf (.type "type")) (.type "type") := Looks.of_pure (by kernel_rfl)
  have LO : Looks (model Challenge.pw_sn0002_01 w) h (opaqueClassAbove (.type "type")) none := Looks.of_pure hstub
  have e : findCls [] (.type "type") (.type "type") (Str.ofString "__prepare__") = some (.get (.builtin "classmethod_descriptor.__get__") (.builtin "type.__prepare__") .none (.type "type")) := by kernel_rfl
  have hg : findIn [] (.type "type") "__getattribute__" = some (some (.builtin "type.__getattribute__")) := type_tga
  refine cls_open2 (s := ⟨h, #[], d, t, os⟩) X LO L0 hg (looks_hook X (r := none) (by rfl)) (by show subIn [] _ _ = _; rfl) e ?_
  show wpAny _ _ (do ret (← holding [Value.builtin "type.__prepare__"] (call (.builtin "classmethod_descriptor.__get__") [.builtin "type.__prepare__", .none, .type "type"]))) _ _ _
  refine wpAny_bind (wpAny_holding (wpAny_mono (r_pget KX (show A.units + 1 < 5000 by lia) (show A.depth < 500 by lia)) (fun v s' hv => ?_) fun _ _ z => z.elim))
  obtain ⟨h', x, tk, rfl, rfl, hk, hx, hn⟩ := hv
  exact wpAny_pure (handed_on rfl (hq _ _ _ hk hx))
theorem Fx.keepN {p Z h₀ L h m h'} (k : ∀ b o, h.get? b = some o → h'.get? b = some o) (F : Fx p Z h₀ L h m) : Fx p Z h₀ L h' m ∧ Lk Z h h' := by
  have hN : h'.Ns L m := let ⟨o, es, n, a, r⟩ := F.ns; ⟨o, es, n, k _ _ a, r⟩
  have hs : h₀.objs.size ≤ h'.objs.size := Nat.le_of_lt (Nat.lt_of_le_of_lt F.ls hN.lt)
  refine ⟨⟨hN, F.k0, F.tb.nd fun b o e _ _ => k b o e, ⟨fun b o e ht => k _ _ (F.ev.1 b o e ht), hs⟩, F.lo, F.ls, ?_⟩, fun b o _ e _ => k b o e⟩
  obtain ⟨c, hc, hz⟩ := F.za
  exact ⟨c, hc.imp id fun ⟨items, n, x⟩ => ⟨items, n, k _ _ x⟩, hz⟩
section
variable {w : World} {A : Around} {E : Value → Shared → Prop} {h : Heap} {d : Drawn} {t : Nat} {os : OsState} {env : Env} {Z : Addr → Prop} {h₀ : Heap} {L : Addr} {m : Str → Option Value}
theorem c_gprep {Q : Option Value → Shared → Prop} (F : Fx w.params Z h₀ L h m) (hu : A.units < 4900) (hd : A.depth < 490)
   (hq : ∀ (h' : Heap) (x : Addr) (tk : Nat), Fx w.params Z h₀ L h' m → Lk Z h h' → h'.get? x = some { cls := .type "builtin_function_or_method", data := .fields #[.builtin "type.__prepare__", .type "type"] } → Q (some (.ref x)) ⟨h', #[], d, tk, os⟩) :
   wpAny (model Challenge.pw_sn0002_01 w) A (getAttr? (.type "type") (Str.ofString "__prepare__")) Q E ⟨h, #[], d, t, os⟩ :=
  r_gprep F.kx hu hd fun h' x tk k hx => let ⟨a, b⟩ := F.keepN k; hq h' x tk a b hx
theorem c_prep {x B : Addr} {tn : Nat} {Q : Value → Shared → Prop} (F : Fx w.params Z h₀ L h m) (hX : h.get? x = some { cls := .type "builtin_function_or_method", data := .fields #[.builtin "type.__prepare__", .type "type"] }) (hB : TB Z h B [.type "object"])
   (hu : A.units < 4900) (hd : A.depth < 490)
   (hq : ∀ (h' : Heap) (N : Addr) (tk : Nat), Fx w.params Z h₀ L h' m → Lk Z h h' → Nx h' N (fun _ => none) → h.get? N = none → Q (.ref N) ⟨h', #[], d, tk, os⟩) :
   wpAny (model Challenge.pw_sn0002_01 w) A (call (.ref x) [.str (S "K") tn, .ref B] []) Q E ⟨h, #[], d, t, os⟩ := by
  refine wpAny_mono (r_prep F.kx (by lia) (by lia) hX hB.2) (fun v s' hv => ?_) fun _ _ z => z.elim
  obtain ⟨h', N, tk, rfl, rfl, hk, hN, hn⟩ := hv
  obtain ⟨a, b⟩ := F.keepN hk
  exact hq _ _ _ a b ⟨#[], 0, hN, fun e he => by simp at he, by unfold UniqKeys; simp, fun _ => rfl⟩ hn
end
end Mine
end

section
-- part KR
open PySem PySem.W PyProof.Rows
set_option maxRecDepth 100000
set_option maxHeartbeats 1000000
namespace Mine
theorem among_append {p : Pos} {l r : List Value} {x : Value} (h : codeAmong p l = some x) : codeAmong p (l ++ r) = some x := by
  fun_induction codeAmong p l with
  | case1 line t col u c rest hc => rw [← h]; simp only [List.cons_append]; unfold codeAmong; rw [if_pos hc]
  | case2 line t col u c rest hc ih => simp only [List.cons_append]; unfold codeAmong; rw [if_neg hc]; exact ih h
  | case3 l hl => cases h
theorem among_none_append {p : Pos} {l r : List Value} (ht : TriplesOk l) (h : codeAmong p l = none) : codeAmong p (l ++ r) = codeAmong p r := by
  fun_induction TriplesOk l with
  | case1 => rfl
  | case2 a t b u x rest ih =>
    unfold codeAmong at h
    split at h
    · cases h
    · rename_i hc
      show (if _ then some x else codeAmong p (rest ++ r)) = _
      rw [if_neg hc]; exact ih ht h
  | case3 l h1 h2 => exact ht.elim
section
variable {M : Model} {A : Around} {E : Value → Shared → Prop} {h : Heap} {g : Array GenState} {d : Drawn} {t : Nat} {os : OsState} {env : Env}
theorem CT.extBut {h h' : Heap} {c P x : Addr} {ps} (k : CT h c P ps) (e : Heap.ExtBut x h h') (h1 : c ≠ x) (h2 : P ≠ x) : CT h' c P ps := ⟨k.1.extBut e h1 h2, k.2.extBut e h1 h2⟩
theorem CT.keeps {h h' : Heap} {c P : Addr} {ps} (k : CT h c P ps) (e : ∀ b o, h.get? b = some o → h'.get? b = some o) : CT h' c P ps := ⟨k.1.keeps e, k.2.keeps e⟩
theorem CT.cr {h : Heap} {c P : Addr} {ps q} (k : CT h c P ps) (r : h.CodeRec (.ref c) q) : CR h c q := by
  obtain ⟨c', o, vs, t, e, a, b, r⟩ := r
  cases e
  obtain ⟨⟨o', vs', a', b', _⟩, _⟩ := k.2
  rw [a] at a'; cases a'
  exact ⟨o, vs, t, a, b', b, r⟩
theorem CT.lt {h : Heap} {c P : Addr} {ps} (k : CT h c P ps) : c < h.objs.size ∧ P < h.objs.size := k.1.lt
theorem CT.at {h : Heap} {c P : Addr} {ps} (k : CT h c P ps) : h.get? P = some { cls := .none, data := .fields ps } := k.2.2
theorem codeAtX {make : CodeContext → Sem Value} {c P : Addr} {ps : Array Value} {pos : Pos} {q : Str} {Q : Value → Shared → Prop} (hc : env.code = .ref c) (hct : CT h c P ps) (hnf : codeAmong pos ps.toList = none)
  (hmake : ∀ ctx (Q' : Value → Shared → Prop), (∀ c' P' h' tk, (∀ b o, h.get? b = some o → h'.get? b = some o) → h.objs.size ≤ c' → h.objs.size ≤ P' → CT h' c' P' #[] → h'.CodeRec (.ref c') q → Q' (.ref c') ⟨h', g, d, tk, os⟩) → wpAny M A (make ctx) Q' E ⟨h, g, d, t, os⟩)
  (hq : ∀ c' P' h' tk, Heap.ExtBut P h h' → h.objs.size ≤ c' → h.objs.size ≤ P' → CT h' c P (ps ++ #[rawInt pos.line, rawInt pos.col, .ref c']) → CT h' c' P' #[] → h'.CodeRec (.ref c') q → Q (.ref c') ⟨h', g, d, tk, os⟩) :
  wpAny M A (codeAt env pos make) Q E ⟨h, g, d, t, os⟩ := by
  obtain ⟨⟨o, vs, file, tf, flags, tg, inF, text, tt, op, ho, hd, h11, h2, h7, h9, h10, hop, hpd, htr, hne⟩, htab⟩ := id hct
  have hPc : P < h.objs.size := hct.lt.2
  unfold codeAt
  rw [hc, if_neg (show ¬ ((Value.ref c == Value.none) = true) from Bool.false_ne_true)]
  refine wpAny_bind (wpAny_fieldsOf (s := ⟨h, g, d, t, os⟩) ho hd ?_)
  rw [h11]
  refine wpAny_bind (wpAny_fieldsOf (s := ⟨h, g, d, t, os⟩) hop hpd ?_)
  rw [hnf, h2, h7, h9, h10]
  refine wpAny_bind (hmake _ _ fun c' P' h' tk hk hc' hP' hct' hrec' => ?_)
  have hop' := hk _ _ hop
  refine wpAny_bind (wpAny_updateFieldsOfTheText (s := ⟨h', g, d, tk, os⟩) hop' hpd ?_)
  have hnew : (Obj.mapFields (fun vs => if (codeAmong pos vs.toList).isSome = true then vs else vs ++ #[rawInt pos.line, rawInt pos.col, .ref c']) op).data =
      .fields (ps ++ #[rawInt pos.line, rawInt pos.col, .ref c']) := by
    rw [Obj.data_mapFields hpd, hnf]; rfl
  have hget := Heap.get?_update_self (h := h') (fun o => Obj.mapFields (fun vs => if (codeAmong pos vs.toList).isSome = true then vs else
    vs ++ #[rawInt pos.line, rawInt pos.col, .ref c']) o) hop' (Obj.isFreed_of_fields hnew)
  refine wpAny_bind (wpAny_fieldsOf hget hnew ?_)
  have hl : (ps ++ #[rawInt pos.line, rawInt pos.col, Value.ref c']).toList = ps.toList ++ [rawInt pos.line, rawInt pos.col, .ref c'] := by simp
  rw [hl, codeAmong_snoc _ htr hnf]
  have hcP : c' ≠ P := Nat.ne_of_gt (Nat.lt_of_lt_of_le hPc hc')
  have hPP : P' ≠ P := Nat.ne_of_gt (Nat.lt_of_lt_of_le hPc hP')
  have hsb : Heap.ExtBut P h' (h'.update P fun o => Obj.mapFields (fun vs => if (codeAmong pos vs.toList).isSome = true then vs else vs ++ #[rawInt pos.line, rawInt pos.col, .ref c']) o) := (Heap.SameBut.update ..).extBut
  refine wpAny_pure (hq c' P' _ _ (fun b o' hb e => hsb b o' hb (hk b o' e)) hc' hP' ⟨?_, ?_⟩ (hct'.extBut hsb hcP hPP) ?_)
  · exact ⟨o, vs, file, tf, flags, tg, inF, text, tt, _, hsb _ _ hne (hk _ _ ho), hd, h11, h2, h7, h9, h10, hget, hnew, by rw [hl]; exact TriplesOk_snoc _ _ _ _ htr, hne⟩
  · obtain ⟨⟨oc, vc, hoc, hcc, hdc, h11c⟩, htP⟩ := htab
    have e1 : op = { cls := .none, data := .fields ps } := Option.some.inj (hop.symm.trans htP)
    refine ⟨⟨oc, vc, hsb _ _ hne (hk _ _ hoc), hcc, hdc, h11c⟩, ?_⟩
    rw [hget, e1]
    simp only [Obj.mapFields, hnf]
    rfl
  · obtain ⟨c₂, o₂, vs₂, t₂, e₂, g₂, r₂⟩ := hrec'
    cases e₂
    exact ⟨_, o₂, vs₂, t₂, rfl, hsb _ _ hcP g₂, r₂⟩
end
/-- within the body of the class -/
structure CB (hB h : Heap) (N cc P : Addr) (ps : Array Value) (D : List (Nat × Str)) (nm : Str → Option Value) : Prop where
  kb : ∀ b o, hB.get? b = some o → b ≠ 30 → b ≠ N → h.get? b = some o
  n : Nx h N nm
  t30 : CT h 34 30 #[rawInt 14, rawInt 4, .ref cc]
  ct : CT h cc P ps
  nt : ¬ isTab P
  np : N ≠ P ∧ N ≠ cc ∧ N ≠ 30 ∧ N ≠ 34
  b34 : ∃ o, hB.get? 34 = some o
  done : ∀ q ∈ D, ∃ m, codeAmong (po q.1 8) ps.toList = some (.ref m) ∧ CR h m q.2
  fr : (∀ q ∈ kMeth, ∃ m, codeAmong (po q.1 8) ps.toList = some (.ref m) ∧ CR h m q.2) ∨ (hB.get? P = none ∧ ∀ q ∈ kMeth, q ∉ D → codeAmong (po q.1 8) ps.toList = none)
theorem CR.keep {h h' : Heap} {c q} (x : CR h c q) (k : ∀ o, h.get? c = some o → o.cls = .type "code" → h'.get? c = some o) : CR h' c q := let ⟨o, vs, t, a, b, r⟩ := x; ⟨o, vs, t, k _ a b, b, r⟩
theorem CB.keep {hB h h' : Heap} {N cc P ps D nm} (C : CB hB h N cc P ps D nm) (k : ∀ b o, h.get? b = some o → h'.get? b = some o) : CB hB h' N cc P ps D nm :=
  ⟨fun b o e h1 h2 => k _ _ (C.kb b o e h1 h2), C.n.keep (k _), C.t30.keeps k, C.ct.keeps k, C.nt, C.np, C.b34, fun q hq => let ⟨m, a, b⟩ := C.done q hq; ⟨m, a, b.keep fun o e _ => k _ _ e⟩,
    C.fr.imp (fun f q hq => let ⟨m, a, b⟩ := f q hq; ⟨m, a, b.keep fun o e _ => k _ _ e⟩) id⟩
theorem Nx.dict {h N m} (x : Nx h N m) : ∃ o, h.get? N = some o ∧ o.cls = .type "dict" := let ⟨es, ep, a, _⟩ := x; ⟨_, a, rfl⟩
theorem CB.set {hB h h' : Heap} {N cc P ps D nm nm'} (C : CB hB h N cc P ps D nm) (n : Nx h' N nm') (s : Heap.SameBut N h h') : CB hB h' N cc P ps D nm' := by
  have k := s.extBut
  obtain ⟨oN, eN, cN⟩ := C.n.dict
  have hcr : ∀ c q, CR h c q → CR h' c q := fun c q x => x.keep fun o e hc => k _ _ (by rintro rfl; rw [eN] at e; cases e; rw [cN] at hc; injection hc with hc; exact absurd hc (by decide)) e
  exact ⟨fun b o e h1 h2 => k _ _ h2 (C.kb b o e h1 h2), n, C.t30.extBut k (Ne.symm C.np.2.2.2) (Ne.symm C.np.2.2.1), C.ct.extBut k (Ne.symm C.np.2.1) (Ne.symm C.np.1), C.nt, C.np, C.b34,
    fun q hq => let ⟨m, a, b⟩ := C.done q hq; ⟨m, a, hcr _ _ b⟩, C.fr.imp (fun f q hq => let ⟨m, a, b⟩ := f q hq; ⟨m, a, hcr _ _ b⟩) id⟩
section
variable {prog : Program} {w : World} {M : Model} {A : Around} {E : Value → Shared → Prop} {h : Heap} {g : Array GenState} {d : Drawn} {t : Nat} {os : OsState} {env : Env} {hB : Heap} {N cc P : Addr} {ps : Array Value} {D : List (Nat × Str)} {nm : Str → Option Value}
theorem TriplesOk_ct {c P ps} (k : CT h c P ps) : TriplesOk ps.toList := by obtain ⟨⟨_, _, _, _, _, _, _, _, _, _, _, _, _, _, _, _, _, _, _, a, _⟩, _⟩ := k; exact a
theorem among_one (l k : Nat) (p : Pos) (c : Value) (hl : p.line = l) (hk : p.col = k) : codeAmong (po l k) [rawInt p.line, rawInt p.col, c] = some c := by
  unfold codeAmong rawInt; subst hl hk; simp
theorem among_other (l k : Nat) (p : Pos) (c : Value) (hl : p.line ≠ l) : codeAmong (po l k) [rawInt p.line, rawInt p.col, c] = none := by
  unfold codeAmong rawInt
  simp only [po]
  rw [if_neg]
  · rfl
  · simp; intro e; lia
theorem CT.cls {h : Heap} {c P : Addr} {ps} (k : CT h c P ps) : ∃ o, h.get? c = some o ∧ o.cls = .type "code" := by obtain ⟨⟨o, vs, a, b, _⟩, _⟩ := k.2; exact ⟨o, a, b⟩
theorem r_fcode {pos : Pos} {firstLine : Nat} {name qualname : Str} {p : Arguments} {scope : Scope} {body : FuncBody} {Q : Value → Shared → Prop} (C : CB hB h N cc P ps D nm) (hc : env.code = .ref cc)
   (q : Nat × Str) (hqm : q ∈ kMeth) (hqd : q ∉ D) (hline : pos.line = q.1) (hcol : pos.col = 8) (hqn : qualname = q.2)
   (hq : ∀ h' tk m ps', CB hB h' N cc P ps' (q :: D) nm → CR h' m q.2 → (∀ b o, b ≠ P → h.get? b = some o → h'.get? b = some o) → Q (.ref m) ⟨h', g, d, tk, os⟩) :
   wpAny M A (functionCode env pos firstLine name qualname p scope body) Q E ⟨h, g, d, t, os⟩ := by
  have epo : codeAmong pos ps.toList = codeAmong (po q.1 8) ps.toList := by rw [among_po, hline, hcol]
  cases hfind : codeAmong (po q.1 8) ps.toList with
  | some v =>
    have hfr : ∀ q ∈ kMeth, ∃ m, codeAmong (po q.1 8) ps.toList = some (.ref m) ∧ CR h m q.2 := by
      rcases C.fr with f | ⟨_, f⟩
      · exact f
      · rw [f q hqm hqd] at hfind; cases hfind
    obtain ⟨m, hm, hcr⟩ := hfr q hqm
    rw [hm] at hfind; cases hfind
    refine wpAny_functionCode_hit (s := ⟨h, g, d, t, os⟩) hc C.ct.1 (epo.trans hm) (hq h t m ps ⟨C.kb, C.n, C.t30, C.ct, C.nt, C.np, C.b34, fun r hr => ?_, .inl hfr⟩ hcr fun _ _ _ e => e)
    rcases List.mem_cons.mp hr with rfl | hr
    · exact ⟨m, hm, hcr⟩
    · exact C.done r hr
  | none =>
    have hnew : hB.get? P = none := by
      rcases C.fr with f | f
      · obtain ⟨m, hm, _⟩ := f q hqm; rw [hm] at hfind; cases hfind
      · exact f.1
    have hrest : ∀ r ∈ kMeth, r ∉ D → codeAmong (po r.1 8) ps.toList = none := by
      rcases C.fr with f | f
      · obtain ⟨m, hm, _⟩ := f q hqm; rw [hm] at hfind; cases hfind
      · exact f.2
    refine wpAny_functionCodeX (s := ⟨h, g, d, t, os⟩) hc C.ct.1 C.ct.2 (epo.trans hfind) fun m h' tk hk hm _ hic hrec htab hP => ?_
    obtain ⟨P', hP', hic', htab'⟩ := hP
    have hcr : CR h' m q.2 := by rw [← hqn]; exact CT.cr ⟨hic', htab'⟩ hrec
    have hPcl : ∀ c o, h.get? c = some o → o.cls = .type "code" → c ≠ P := fun c o e hc => by
      rintro rfl; rw [C.ct.at] at e; cases e; cases hc
    have hcrk : ∀ c r, CR h c r → CR h' c r := fun c r x => x.keep fun o e hc => hk _ _ (hPcl _ _ e hc) e
    have htr := TriplesOk_ct C.ct
    have hl : (ps ++ #[rawInt pos.line, rawInt pos.col, Value.ref m]).toList = ps.toList ++ [rawInt pos.line, rawInt pos.col, .ref m] := by simp
    have h30 : (30 : Addr) ≠ P := fun e => C.nt (.inl e.symm)
    have h34 : (34 : Addr) ≠ P := by obtain ⟨o, e⟩ := C.b34; rintro rfl; rw [hnew] at e; cases e
    have hfound : codeAmong (po q.1 8) (ps ++ #[rawInt pos.line, rawInt pos.col, Value.ref m]).toList = some (.ref m) := by
      rw [hl, among_none_append htr hfind]; exact among_one _ _ _ _ hline hcol
    refine hq h' tk m _ ⟨fun b o e h1 h2 => hk _ _ (by rintro rfl; rw [hnew] at e; cases e) (C.kb b o e h1 h2), C.n.keep (fun o e => hk _ _ C.np.1 e), C.t30.extBut hk h34 h30, ⟨hic, htab⟩, C.nt, C.np, C.b34, fun r hr => ?_, .inr ⟨hnew, fun r hr hrd => ?_⟩⟩ hcr fun b o hb e => hk b o hb e
    · rcases List.mem_cons.mp hr with rfl | hr
      · exact ⟨m, hfound, hcr⟩
      · obtain ⟨m', a, b⟩ := C.done r hr
        exact ⟨m', by rw [hl]; exact among_append a, hcrk _ _ b⟩
    · have hne : r ≠ q := fun e => hrd (e ▸ List.mem_cons_self)
      have hrD : r ∉ D := fun e => hrd (List.mem_cons_of_mem _ e)
      rw [hl, among_none_append htr (hrest r hr hrD)]
      refine among_other _ _ _ _ ?_
      rw [hline]
      intro e
      apply hne
      simp only [kMeth, List.mem_cons, List.not_mem_nil, or_false] at hr hqm
      rcases hr with rfl | rfl | rfl | rfl | rfl | rfl <;> rcases hqm with rfl | rfl | rfl | rfl | rfl | rfl <;> first | rfl | (exact absurd e (by decide))
end
end Mine
end

section
-- part KS
open PySem PySem.W PyProof.Rows
set_option maxRecDepth 100000
set_option maxHeartbeats 1000000
namespace Mine
structure FD (h : Heap) (fd : FuncData) (params : Arguments) (body : List Stmt) (scope : Scope) (clo : List (Str × Addr)) (q : Str) : Prop where
  pa : fd.params = params
  bo : fd.body = .stmts body
  sc : fd.scope = scope
  gl : fd.globals = 3
  bu : fd.builtins = 0
  cl : fd.closure = clo
  qu : fd.qualname = q
  de : fd.defaults = .none
  co : ∃ m, fd.code = .ref m ∧ CR h m q
section
variable {prog : Program} {w : World} {M : Model} {A : Around} {E : Value → Shared → Prop} {h : Heap} {g : Array GenState} {d : Drawn} {t : Nat} {os : OsState} {env : Env} {hB : Heap} {N cc P : Addr} {ps : Array Value} {D : List (Nat × Str)} {nm : Str → Option Value}
  {Z : Addr → Prop} {h₀ : Heap} {L : Addr} {m : Str → Option Value}
theorem small_lt {h : Heap} (T : Tb h) {b : Addr} (hb : isTab b) : b < h.objs.size := let ⟨_, e⟩ := T.none hb; Heap.lt_size e
theorem r_ccode {pos : Pos} {firstLine : Nat} {name qualname : Str} {scope : Scope} {Q : Value → Shared → Prop} (T : Tb h) (hN : Nx h N nm) (hc : env.code = .ref 34) (hl : pos.line = 14) (hcl : pos.col = 4)
   (hq : ∀ h' tk cc P ps, CB h h' N cc P ps [] nm → Q (.ref cc) ⟨h', g, d, tk, os⟩) : wpAny M A (classCode env pos firstLine name qualname scope) Q E ⟨h, g, d, t, os⟩ := by
  obtain ⟨ps0, hct, hps⟩ := T.t30
  obtain ⟨oN, eN, cN⟩ := hN.dict
  have hN' : N < h.objs.size := Heap.lt_size eN
  have n30 : N ≠ 30 := by rintro rfl; rw [hct.at] at eN; cases eN; cases cN
  have n34 : N ≠ 34 := by
    obtain ⟨o, e, c⟩ := hct.cls
    rintro rfl; rw [e] at eN; cases eN; rw [c] at cN; injection cN with cN; exact absurd cN (by decide)
  have b34 : ∃ o, h.get? 34 = some o := let ⟨o, e, _⟩ := hct.cls; ⟨o, e⟩
  unfold classCode
  rcases hps with rfl | ⟨cc, rfl, P, ps, nt, hct', hall⟩
  · refine codeAtX hc hct rfl (q := qualname) (fun ctx Q' hq' => wpAny_newCodeX (s := ⟨h, g, d, t, os⟩) fun c' P' h' tk hk hc' hP' hic htab hrec => hq' c' P' h' tk hk hc' hP' ⟨hic, htab⟩ hrec) fun c' P' h' tk hk hc' hP' hct2 hct3 hrec => ?_
    have e2 : (#[] ++ #[rawInt pos.line, rawInt pos.col, Value.ref c'] : Array Value) = #[rawInt 14, rawInt 4, .ref c'] := by rw [hl, hcl]; rfl
    rw [e2] at hct2
    have hnt : ¬ isTab P' := fun hb => Nat.lt_irrefl _ (Nat.lt_of_lt_of_le (small_lt T hb) hP')
    exact hq h' tk c' P' #[] ⟨fun b o e h1 h2 => ‹Heap.ExtBut 30 h h'› _ _ h1 e, hN.keep fun o e => ‹Heap.ExtBut 30 h h'› _ _ n30 e, hct2, hct3, hnt, ⟨Nat.ne_of_lt (Nat.lt_of_lt_of_le hN' hP'), Nat.ne_of_lt (Nat.lt_of_lt_of_le hN' hc'), n30, n34⟩, b34, (fun _ hq => nomatch hq), .inr ⟨Heap.get?_none_of_le hP', fun q _ _ => rfl⟩⟩
  · have hf : codeAmong pos (#[rawInt 14, rawInt 4, Value.ref cc] : Array Value).toList = some (.ref cc) := by
      rw [among_po, hl, hcl]; rfl
    refine wpAny_codeAt_hit (s := ⟨h, g, d, t, os⟩) hc hct.1 hf (hq h t cc P ps ⟨fun b o e _ _ => e, hN, hct, hct', nt, ⟨?_, ?_, n30, n34⟩, b34, (fun _ hq => nomatch hq), .inl hall⟩)
    · rintro rfl; rw [hct'.at] at eN; cases eN; cases cN
    · obtain ⟨o, e, c⟩ := hct'.cls
      rintro rfl; rw [e] at eN; cases eN; rw [c] at cN; injection cN with cN; exact absurd cN (by decide)
theorem CB.pn {b : Addr} {o : Obj} (C : CB hB h N cc P ps D nm) (e : h.get? b = some o) (hc : o.cls ≠ .none ∨ ∀ vs, o.data ≠ .fields vs) : b ≠ P := by
  rintro rfl; rw [C.ct.at] at e; cases e; exact hc.elim (fun x => x rfl) fun x => x _ rfl
theorem CB.kx {p : Params} (C : CB hB h N cc P ps D nm) (KB : Frag.In (KT p) hB) (hNK : ∀ b o, List.lookup b (KT p) = some o → b ≠ N) : Frag.In (KT p) h := fun b o e => C.kb b o (KB b o e) (fun q => kt_tab p e (.inl q)) (hNK b o e)
theorem CB.keepsz (C : CB hB h N cc P ps D nm) (o : Obj) : CB hB (h.push o) N cc P ps D nm := C.keep fun _ _ e => Heap.get?_push_of_some _ e
theorem mkFn {name qualname : Str} {params : Arguments} {body : List Stmt} {scope : Scope} {pos : Pos} {firstLine : Nat} {clo : List (Str × Addr)} {Q : Value → Shared → Prop} (C : CB hB h N cc P ps D nm)
   (KB : Frag.In (KT w.params) hB) (hNK : ∀ b o, List.lookup b (KT w.params) = some o → b ≠ N) (hc : env.code = .ref cc) (hg : env.globals = 3) (hb : env.builtins = 0) (hclo : closureFor scope env = pure clo) (hdoc : docOf body = none)
   (q : Nat × Str) (hqm : q ∈ kMeth) (hqd : q ∉ D) (hline : pos.line = q.1) (hcol : pos.col = 8) (hqn : qualname = q.2)
   (hq : ∀ h' tk f fd ps', CB hB h' N cc P ps' (q :: D) nm → h'.get? f = some { cls := .type "function", data := .func fd } → FD h' fd params body scope clo q.2 → Lk (fun _ => True) h h' → h.get? f = none → Q (.ref f) ⟨h', g, d, tk, os⟩) :
   wpAny M A (makeFunction name qualname params (.stmts body) scope env [] [] [] pos firstLine) Q E ⟨h, g, d, t, os⟩ := by
  unfold makeFunction
  simp only [List.zip_nil_right, List.filterMap_nil, List.isEmpty_nil, if_true, pure_bind, hclo, hdoc]
  have rest : ∀ (h1 : Heap) (t1 : Nat) (ctv : Value), CB hB h1 N cc P ps D nm → (∀ b o, b ≠ P → h.get? b = some o → h1.get? b = some o) → wpAny M A (do
      let code ← functionCode env pos firstLine name qualname params scope (.stmts body)
      let builtins ← builtinsFor env.globals env.builtins
      let pm ← nsGet env.globals "__name__"
      newObj (.type "function") (.func { name, qualname, params, body := .stmts body, scope, globals := env.globals, closure := clo, closureTuple := ctv, code, builtins, defaults := .none, kwdefaults := .none, annotations := none, pyModule := pm.getD .none, doc := .none })) Q E ⟨h1, g, d, t1, os⟩ := by
    intro h1 t1 ctv C1 k1
    refine wpAny_bind (r_fcode C1 hc q hqm hqd hline hcol hqn fun h2 t2 m ps' C2 hcr k2 => ?_)
    have k12 : ∀ b o, b ≠ P → h.get? b = some o → h2.get? b = some o := fun b o hb e => k2 b o hb (k1 b o hb e)
    have KX2 := C2.kx KB hNK
    obtain ⟨e1, e2, e3⟩ := kt4d w.params
    rw [hg, hb]
    refine wpAny_bind ?_
    unfold builtinsFor
    refine wpAny_bind (wpAny_nsGet (s := ⟨h2, g, d, t2, os⟩) (gNs KX2) ?_)
    have eb := gl_bs w.params
    rw [show mgl w.params ("__builtins__" : Str) = some (.ref 4) from eb]
    dsimp only
    rw [if_neg (by decide)]
    refine wpAny_bind (wpAny_load (s := ⟨h2, g, d, t2, os⟩) (KX2 4 _ (kt4 _)) ?_)
    rw [e1, e2, e3]
    refine wpAny_pure ?_
    refine wpAny_bind (wpAny_nsGet (s := ⟨h2, g, d, t2, os⟩) (gNs KX2) ?_)
    refine wpAny_newObj_type (s := ⟨h2, g, d, t2, os⟩) ?_ (by trivial)
    refine hq _ _ _ _ ps' (C2.keepsz _) (Heap.get?_push_size _ rfl) ⟨rfl, rfl, rfl, rfl, rfl, rfl, hqn, rfl, m, rfl, hcr.keep fun o e _ => Heap.get?_push_of_some _ e⟩ (fun b o _ e hk => Heap.get?_push_of_some _ (k12 b o (C.pn e hk.2) e)) ?_
    cases hf : h.get? h2.objs.size with
    | none => rfl
    | some o =>
      by_cases hbp : h2.objs.size = P
      · exact absurd (Nat.lt_of_lt_of_eq C2.ct.lt.2 hbp) (Nat.lt_irrefl _)
      · exact absurd (Heap.lt_size (k12 _ _ hbp hf)) (Nat.lt_irrefl _)
  cases hcl : clo.isEmpty with
  | true => simp only [if_true, pure_bind]; exact rest h t .none C fun _ _ _ e => e
  | false =>
    simp only [Bool.false_eq_true, if_false]
    refine wpAny_bind (wpAny_newTextTuple (s := ⟨h, g, d, t, os⟩) ?_)
    exact rest _ _ _ (C.keepsz _) fun b o _ e => Heap.get?_push_of_some _ e
theorem stC {name : Str} {v : Value} {Q : Unit → Shared → Prop} (C : CB hB h N cc P ps D nm) (hl : env.locals = N) (hs : storeName env name v = localSet env name v)
   (hq : ∀ h', CB hB h' N cc P ps D (fun x => if x = name then some v else nm x) → Lk (fun _ => True) h h' → Q () ⟨h', g, d, t + 1, os⟩) : wpAny M A (storeName env name v) Q E ⟨h, g, d, t, os⟩ := by
  rw [hs]
  unfold localSet
  obtain ⟨es, ep, a, r⟩ := C.n
  rw [hl]
  refine wpAny_bind (wpAny_load (s := ⟨h, g, d, t, os⟩) a ?_)
  dsimp only
  rw [if_pos (by decide)]
  exact nsSetX ⟨es, ep, a, r⟩ fun h' n hsb => hq h' (C.set n hsb) fun b o _ e hk => hsb.extBut _ _ (by rintro rfl; rw [a] at e; cases e; exact hk.1 _ _ rfl) e
theorem sys_at (p : Params) : List.lookup 1 (KT p) = some (objAt p 1) := by kernel_rfl
theorem nsys (KX : Frag.In (KT w.params) h) (hn : h.get? N = none) : (N == sysModules) = false := by
  rw [beq_eq_false_iff_ne]; rintro rfl
  rw [show h.get? sysModules = some (objAt w.params 1) from KX 1 _ (sys_at _)] at hn
  cases hn
theorem sp_gi {Q : Option Value → Shared → Prop} (hN : Nx h N nm) (hq : Q (some (.builtin "dict.__getitem__")) ⟨h, g, d, t, os⟩) : wpAny M A (specialOf (.ref N) (Str.ofString "__getitem__")) Q E ⟨h, g, d, t, os⟩ := by
  obtain ⟨es, ep, a, _⟩ := hN
  exact wpAny_specialOf (s := ⟨h, g, d, t, os⟩) (T := "dict") ⟨_, a, rfl⟩ F.slot_dict_getitem.lookup hq
/-- a step that lays a new thing alone -/
theorem CB.al {o : Obj} {Q : Addr → Shared → Prop} (C : CB hB h N cc P ps D nm) (hq : ∀ h' a, CB hB h' N cc P ps D nm → h'.get? a = some o → Lk (fun _ => True) h h' → h.get? a = none → Q a ⟨h', g, d, t, os⟩) (hf : o.isFreed = false) : wpAny M A (alloc o) Q E ⟨h, g, d, t, os⟩ :=
  wpAny_alloc' (hq _ _ (C.keepsz o) (Heap.get?_push_size _ hf) (fun _ _ _ e _ => Heap.get?_push_of_some _ e) (Heap.get?_none_of_le (Nat.le_refl _)))
theorem r_bfC {Q : Addr → Shared → Prop} (C : CB hB h N cc P ps D nm) (KB : Frag.In (KT w.params) hB) (hNK : ∀ b o, List.lookup b (KT w.params) = some o → b ≠ N) (hg : env.globals = 3) (hq : Q 0 ⟨h, g, d, t, os⟩) : wpAny M A (builtinsFor env.globals env.builtins) Q E ⟨h, g, d, t, os⟩ := by
  have KX := C.kx KB hNK
  obtain ⟨e1, e2, e3⟩ := kt4d w.params
  rw [hg]
  unfold builtinsFor
  refine wpAny_bind (wpAny_nsGet (s := ⟨h, g, d, t, os⟩) (gNs KX) ?_)
  rw [show mgl w.params ("__builtins__" : Str) = some (.ref 4) from gl_bs w.params]
  dsimp only
  rw [if_neg (by decide)]
  refine wpAny_bind (wpAny_load (s := ⟨h, g, d, t, os⟩) (KX 4 _ (kt4 _)) ?_)
  rw [e1, e2, e3]
  exact wpAny_pure hq
theorem ngGC {x : Str} {r : Option Value} {Q : Option Value → Shared → Prop} (C : CB hB h N cc P ps D nm) (KB : Frag.In (KT w.params) hB) (hNK : ∀ b o, List.lookup b (KT w.params) = some o → b ≠ N) (hg : env.globals = 3) (hv : mgl w.params x = r) (hq : Q r ⟨h, g, d, t, os⟩) : wpAny M A (nsGet env.globals x) Q E ⟨h, g, d, t, os⟩ := by
  rw [hg]; exact wpAny_nsGet (s := ⟨h, g, d, t, os⟩) (gNs (C.kx KB hNK)) (hv ▸ hq)
theorem ngN {x : Str} {r : Option Value} {Q : Option Value → Shared → Prop} (C : CB hB h N cc P ps D nm) (hv : nm x = r) (hq : Q r ⟨h, g, d, t, os⟩) : wpAny M A (nsGet N x) Q E ⟨h, g, d, t, os⟩ := wpAny_nsGet (s := ⟨h, g, d, t, os⟩) C.n.ns (hv ▸ hq)
theorem ldN {Q : Obj → Shared → Prop} (C : CB hB h N cc P ps D nm) (hq : ∀ es ep, Q { cls := .type "dict", data := .dict es ep } ⟨h, g, d, t, os⟩) : wpAny M A (load N) Q E ⟨h, g, d, t, os⟩ := by
  obtain ⟨es, ep, a, _⟩ := C.n
  exact wpAny_load (s := ⟨h, g, d, t, os⟩) a (hq es ep)
theorem enF {Q : Unit → Shared → Prop} (C : CB hB h N cc P ps D nm) (KB : Frag.In (KT w.params) hB) (hNK : ∀ b o, List.lookup b (KT w.params) = some o → b ≠ N) (hd : A.depth < recursionLimit) (hq : Q () ⟨h, g, d, t, os⟩) : wpAny M A enterFrame Q E ⟨h, g, d, t, os⟩ :=
  wpAny_enterFrame (s := ⟨h, g, d, t, os⟩) (noLim (C.kx KB hNK)) hd hq
theorem k_str {x : Str} {k : Nat} {pos : Pos} {Q : Value → Shared → Prop} (hq : Q (.str x t) ⟨h, g, d, t + 1, os⟩) : wpAny M A (eval (.Constant (.str x) k pos) env) Q E ⟨h, g, d, t, os⟩ := wpAny_Constant_str (s := ⟨h, g, d, t, os⟩) hq
theorem lstC {x : Str} {k : Nat} {pos pos' : Pos} {Q : Value → Shared → Prop} (C : CB hB h N cc P ps D nm)
   (hq : ∀ h' a, CB hB h' N cc P ps D nm → h'.get? a = some { cls := .type "list", data := .seq #[.str x t] 0 } → Lk (fun _ => True) h h' → Q (.ref a) ⟨h', g, d, t + 1, os⟩) :
   wpAny M A (eval (.List [.Constant (.str x) k pos'] pos) env) Q E ⟨h, g, d, t, os⟩ := by
  refine wpAny_List (wpAny_items_cons (k_str (wpAny_items_nil ⟨by show 1 ≤ sizeLine; decide, ?_⟩)))
  exact hq _ _ (C.keepsz _) (Heap.get?_push_size _ rfl) fun _ _ _ e _ => Heap.get?_push_of_some _ e
theorem ttC {items : List Value} {Q : Value → Shared → Prop} (C : CB hB h N cc P ps D nm)
   (hq : ∀ h' a, CB hB h' N cc P ps D nm → h'.get? a = some { cls := .type "tuple", data := .seq items.toArray } → Lk (fun _ => True) h h' → Q (.ref a) ⟨h', g, d, t, os⟩) : wpAny M A (newTextTuple items) Q E ⟨h, g, d, t, os⟩ :=
  wpAny_newTextTuple (s := ⟨h, g, d, t, os⟩) (hq _ _ (C.keepsz _) (Heap.get?_push_size _ rfl) fun _ _ _ e _ => Heap.get?_push_of_some _ e)
end
end Mine
end

section
-- part KT1
open PySem PySem.W PyProof.Rows PySem.W.X
set_option maxRecDepth 100000
set_option maxHeartbeats 4000000
namespace Mine
theorem t_can : ((Manifest.find? "type").bind (·.mro.findSome? fun t => (Manifest.find? t).bind fun b => if b.noNew then some true else if b.attrs.any (·.1 == "__new__") then some false else none)).getD false = false := by kernel_rfl
theorem t_mro : mroOf (.type "type") = pure [.type "type", .type "object"] := by kernel_rfl
theorem t_made : Bind.madeBy (.type "type") = pure (some "type.__new__") := by kernel_rfl
theorem t_entry : entryFor table "type.__new__" = some Builtin.«type.__new__» := entryFor_of_tree (by kernel_rfl)
theorem t_plain : plainId "type.__new__" = true := by decide +kernel
section
variable {w : World} {A : Around} {E : Value → Shared → Prop} {h : Heap} {d : Drawn} {t : Nat} {os : OsState}
theorem t_chk (tn : Nat) (B N : Addr) : checkTypeCall "type" ⟨[.str (S "K") tn, .ref B, .ref N], []⟩ = pure () := by kernel_rfl
theorem t_chk2 (tn : Nat) (B N : Addr) : checkBuiltinCall "type.__new__" ⟨[.type "type", .str (S "K") tn, .ref B, .ref N], []⟩ = pure () := by kernel_rfl
theorem nf_none {es : Array DictEntry} {n : Str} (e : nsFind es n = none) : es.any (·.key.isStr n) = false := by
  unfold nsFind findBy at e
  rw [Option.map_eq_none_iff, Array.find?_eq_none] at e
  rw [Array.any_eq_false']
  intro x hx
  simpa using e x hx
theorem nf_some {es : Array DictEntry} {n : Str} {v : Value} (hk : StrKeys es) (e : nsFind es n = some v) : ∃ kk tt, es.find? (·.key.isStr n) = some ⟨kk, .str n tt, v⟩ := by
  unfold nsFind findBy at e
  obtain ⟨x, hx, rfl⟩ := Option.map_eq_some_iff.mp e
  have h1 := Array.find?_some hx
  obtain ⟨n', t', hn⟩ := hk x (Array.mem_of_find?_eq_some hx)
  have : n' = n := by
    rw [hn] at h1; exact eq_of_beq h1
  subst this
  obtain ⟨a, b, c⟩ := x
  simp only at hn
  subst hn
  exact ⟨a, t', hx⟩
theorem nf_any {es : Array DictEntry} {n : Str} {v : Value} (e : nsFind es n = some v) : es.any (·.key.isStr n) = true := by
  unfold nsFind findBy at e
  obtain ⟨x, hx, rfl⟩ := Option.map_eq_some_iff.mp e
  rw [Array.any_eq_true']
  have h1 := Array.find?_some hx
  exact ⟨x, Array.mem_of_find?_eq_some hx, h1⟩
structure TN (h : Heap) (N B : Addr) (nm : Str → Option Value) (u1 : Nat) : Prop where
  n : Nx h N nm
  sy : (N == sysModules) = false
  b : h.get? B = some { cls := .type "tuple", data := .seq #[.type "object"] 0 }
  s : ∃ vS ts, nm (S "__slots__") = some (.ref vS) ∧ h.get? vS = some { cls := .type "list", data := .seq #[.str (S "obj") ts] 0 }
  q : nm "__qualname__" = some (.str kq u1)
  no : nm "__doc__" = none ∧ nm "__new__" = none ∧ nm "__init_subclass__" = none ∧ nm "__class_getitem__" = none ∧ nm "__classcell__" = none ∧ nm "__classdictcell__" = none ∧ nm (S "obj") = none ∧ nm "__del__" = none
  mo : ∃ v, nm "__module__" = some v
  eq : ∃ v, nm "__eq__" = some v
  ha : nm "__hash__" = some .none
  dom : ∃ L : List Str, L.length ≤ 100 ∧ ∀ n, nm n ≠ none → n ∈ L
  val : ∀ n v, nm n = some v → SNone h v
theorem tnew2 {tn u1 : Nat} {N B : Addr} {nm : Str → Option Value} {Q : PySem.Fin → Shared → Prop} (KX : Frag.In (KT w.params) h) (hu : A.units < 4800) (hd : A.depth < 480) (T : TN h N B nm u1)
   (hq : ∀ h' a ns md tk tk' es, (∀ b o, h.get? b = some o → h'.get? b = some o) → h'.get? a = some (kCls a ns B tn u1) → (∀ n, nsFind es n = nm n) → h'.Ns ns (mFin es md) → h'.get? md = some (mdObj tk' a) → Q (.done (.ret (.ref a))) ⟨h', #[], d, tk, os⟩) :
   wpAny (model Challenge.pw_sn0002_01 w) A (Builtin.«type.__new__» ⟨[.type "type", .str (S "K") tn, .ref B, .ref N], []⟩) Q E ⟨h, #[], d, t, os⟩ := by
  obtain ⟨es, ep, a, hk, hun, hm⟩ := T.n
  obtain ⟨vS, ts, s1, s2⟩ := T.s
  obtain ⟨n1, n2, n3, n4, n5, n6, n7, n8⟩ := T.no
  obtain ⟨vm, hmo⟩ := T.mo
  obtain ⟨ve, heq⟩ := T.eq
  obtain ⟨L, hL1, hL2⟩ := T.dom
  refine tnew KX hu hd a hk hun (Nat.le_trans (size_le_dom hk hun hm hL2) hL1) T.b s2 T.sy L (by lia) (fun n hn => hL2 n (by rw [← hm]; exact hn)) (nf_some hk ((hm _).trans s1)) (nf_none ((hm _).trans n7)) (nf_any ((hm _).trans hmo)) (nf_none ((hm _).trans n8))
    ((hm _).trans T.q) ((hm _).trans n1) ((hm _).trans n2) ((hm _).trans n3) ((hm _).trans n4) ((hm _).trans n5) ((hm _).trans n6) ((hm _).trans n7) ((hm _).trans heq) ((hm _).trans T.ha) (fun n v hv => T.val n v ((hm _).symm.trans hv)) fun h' a ns md tk tk' hk' ha hn hmd => hq h' a ns md tk tk' es hk' ha hm hn hmd
theorem t_islot : Slot "type" "__init__" "type.__init__" :=
  .of (owner := "type") (n := "__init__") (by rw [typeLookup_type, builtinLookup_eq_fast]; kernel_rfl) (by decide +kernel) (by decide +kernel) (by decide +kernel)
    (by first | exact .inl (by decide +kernel) | exact .inr (by decide +kernel)) (by rw [isSubtype_type]; kernel_rfl)
theorem t_ientry : entryFor table "type.__init__" = some Builtin.«type.__init__» := entryFor_of_tree (by kernel_rfl)
theorem t_iargs (a x b c : Value) : argsOk "type.__init__" ⟨[a, x, b, c], []⟩ := by unfold argsOk; kernel_rfl
theorem r_tcall {tn u1 : Nat} {N B : Addr} {nm : Str → Option Value} {Q : Value → Shared → Prop} (KX : Frag.In (KT w.params) h) (hu : A.units < 4700) (hd : A.depth < 480) (T : TN h N B nm u1)
   (hq : ∀ h' a ns md tk tk' es, (∀ b o, h.get? b = some o → h'.get? b = some o) → h'.get? a = some (kCls a ns B tn u1) → (∀ n, nsFind es n = nm n) → h'.Ns ns (mFin es md) → h'.get? md = some (mdObj tk' a) → Q (.ref a) ⟨h', #[], d, tk, os⟩) :
   wpAny (model Challenge.pw_sn0002_01 w) A (call (.type "type") [.str (S "K") tn, .ref B, .ref N]) Q E ⟨h, #[], d, t, os⟩ := by
  refine wpAny_call (codeAny_of_tree ?_)
  show wpAny _ _ (callAny (.type "type") _) _ _ _
  refine wpAny_pure ⟨Code.quiet_builtin _ (by decide +kernel), codeAny_builtin F.entry_type_call ?_⟩
  rw [Around.under_plain (weight_type_call_type "type" [.str (S "K") tn, .ref B, .ref N] []) (units_type_call_type "type" [.str (S "K") tn, .ref B, .ref N] [])]
  have h1 := t_can
  have h2 := t_mro
  have h3 := t_made
  have h4 := t_chk tn B N
  repeat (any_goals (first | assumption | wp_step))
  refine codeAny_call_builtin t_plain t_entry (wpAny_of_eq (t_chk2 tn B N) (tnew2 KX (show A.units + 1 + 1 < 4800 by lia) (show A.depth < 480 by lia) T fun h' a ns md tk tk' es hk ha hm hn hmd => ?_))
  have hT : ∀ t, (⟨h', #[], d, t, os⟩ : Shared).TypeIs (.ref a) "type" := fun t => ⟨_, ha, rfl⟩
  refine wpAny_bind (wpAny_isInstance (hT _) f_sub ?_)
  dsimp only
  rw [if_neg (by decide)]
  refine wpAny_bind (wpAny_holding (wpAny_callSpecial?_slot (name := Str.ofString "__init__") (hT _) t_islot (wpAny_call_entry t_islot (hT _) t_ientry ?_ (t_iargs _ _ _ _))))
  refine wpAny_pure ⟨_, rfl, ?_⟩
  exact wpAny_pure (hq h' a ns md tk tk' es hk ha hm hn hmd)
end
end Mine
end

section
-- part KT2
open PySem PySem.W PyProof.Rows
set_option maxRecDepth 100000
set_option maxHeartbeats 1000000
namespace Mine
theorem CT.at2 {h h' : Heap} {c P : Addr} {ps} (x : CT h c P ps) (k1 : ∀ o, h.get? c = some o → h'.get? c = some o) (k2 : ∀ o, h.get? P = some o → h'.get? P = some o) : CT h' c P ps := by
  obtain ⟨⟨o, vs, file, tf, flags, tg, inF, text, tt, op, a, r1, r2, r3, r4, r5, r6, b, r, rr⟩, ⟨o', vs', a', b', r', rr'⟩, t⟩ := x
  exact ⟨⟨o, vs, file, tf, flags, tg, inF, text, tt, _, k1 _ a, r1, r2, r3, r4, r5, r6, k2 _ b, r, rr⟩, ⟨o', vs', k1 _ a', b', r', rr'⟩, k2 _ t⟩
section
variable {p : Params} {h hB : Heap} {N cc P : Addr} {ps : Array Value} {D : List (Nat × Str)} {nm : Str → Option Value} {Z : Addr → Prop} {h₀ : Heap} {L : Addr} {m : Str → Option Value}
theorem CB.fx (C : CB hB h N cc P ps D nm) (F : Fx p Z h₀ L hB m) (hNL : L ≠ N) (hN0 : h₀.get? N = none) (nB : ∃ o, hB.get? N = some o ∧ o.cls = .type "dict") (hall : ∀ q ∈ kMeth, q ∈ D) : Fx p Z h₀ L h m := by
  obtain ⟨oN, eN, cN⟩ := nB
  have ndict : ∀ {b o}, hB.get? b = some o → o.cls ≠ .type "dict" → b ≠ N := fun e hc => by rintro rfl; rw [eN] at e; cases e; exact hc cN
  have code_ne : ∀ {c : Addr} {o : Obj}, hB.get? c = some o → o.cls = .type "code" → h.get? c = some o := fun {c o} e hc => C.kb c o e (by
    obtain ⟨vs, e30⟩ := F.tb.none (.inl rfl)
    rintro rfl; rw [e] at e30; cases e30; cases hc) (ndict e (by rw [hc]; intro q; injection q with q; exact absurd q (by decide)))
  have hcr : ∀ {c q}, CR hB c q → CR h c q := fun x => x.keep fun o e hc => code_ne e hc
  have hct : ∀ {c P' : Addr} {ps'}, CT hB c P' ps' → P' ≠ 30 → CT h c P' ps' := fun {c P' ps'} x hP => x.at2 (fun o e => by
      obtain ⟨o', e', c'⟩ := x.cls; rw [e] at e'; cases e'; exact code_ne e c') (fun o e => C.kb _ o e hP (by
      rintro rfl; rw [x.at] at eN; cases eN; cases cN))
  obtain ⟨oL, es, n, aL, bL, rL⟩ := F.ns
  have hL30 : L ≠ 30 := by
    obtain ⟨vs, e30⟩ := F.tb.none (.inl rfl)
    rintro rfl; rw [aL] at e30; cases e30; cases bL
  have hN : h.Ns L m := ⟨oL, es, n, C.kb _ _ aL hL30 hNL, bL, rL⟩
  have hs : h₀.objs.size ≤ h.objs.size := Nat.le_of_lt (Nat.lt_of_le_of_lt F.ls hN.lt)
  refine ⟨hN, F.k0, ⟨⟨_, C.t30, .inr ⟨cc, rfl, P, ps, C.nt, C.ct, fun q hq => C.done q (hall q hq)⟩⟩, ?_, ?_⟩, ⟨fun b o e ht => C.kb b o (F.ev.1 b o e ht) (fun q => ht (.inl q)) (by rintro rfl; rw [hN0] at e; cases e), hs⟩, F.lo, F.ls, ?_⟩
  · obtain ⟨ps', x, r⟩ := F.tb.t79
    exact ⟨ps', hct x (by decide), r.imp id fun ⟨c', e, g⟩ => ⟨c', e, hcr g⟩⟩
  · obtain ⟨ps', x, r⟩ := F.tb.t86
    exact ⟨ps', hct x (by decide), r.imp id fun ⟨c', e, g⟩ => ⟨c', e, hcr g⟩⟩
  · obtain ⟨c, hc, hz⟩ := F.za
    refine ⟨c, hc.imp id ?_, hz⟩
    rintro ⟨items, k, x⟩
    refine ⟨items, k, C.kb _ _ x ?_ (ndict x (by intro q; injection q with q; exact absurd q (by decide)))⟩
    obtain ⟨vs, e30⟩ := F.tb.none (.inl rfl)
    rintro rfl; have q := x.symm.trans e30; injection q with q; cases q
end
/-! what the names of the class hold -/
theorem sn_ref {h : Heap} {f : Addr} {o : Obj} {T : String} (e : h.get? f = some o) (hc : o.cls = .type T) (hs : typeLookup (.type T) "__set_name__" = pure none) : SNone h (.ref f) :=
  ⟨T, fun s k => ⟨o, k _ _ e, hc⟩, hs, fun n t => rfl⟩
theorem sl_fn : typeLookup (.type "function") "__set_name__" = pure none := by rw [typeLookup_type, builtinLookup_eq_fast]; kernel_rfl
theorem sl_li : typeLookup (.type "list") "__set_name__" = pure none := by rw [typeLookup_type, builtinLookup_eq_fast]; kernel_rfl
theorem sl_tu : typeLookup (.type "tuple") "__set_name__" = pure none := by rw [typeLookup_type, builtinLookup_eq_fast]; kernel_rfl
theorem sl_st : typeLookup (.type "str") "__set_name__" = pure none := by rw [typeLookup_type, builtinLookup_eq_fast]; kernel_rfl
theorem sl_in : typeLookup (.type "int") "__set_name__" = pure none := by rw [typeLookup_type, builtinLookup_eq_fast]; kernel_rfl
theorem sl_no : typeLookup (.type "NoneType") "__set_name__" = pure none := by rw [typeLookup_type, builtinLookup_eq_fast]; kernel_rfl
theorem sn_str {h : Heap} {x : Str} {t : Nat} : SNone h (.str x t) := ⟨"str", fun s _ => rfl, sl_st, fun n t => rfl⟩
theorem sn_int {h : Heap} {x : Int} {t : Nat} : SNone h (.int x t) := ⟨"int", fun s _ => rfl, sl_in, fun n t => rfl⟩
theorem sn_none {h : Heap} : SNone h .none := ⟨"NoneType", fun s _ => rfl, sl_no, fun n t => rfl⟩
/-- the methods' texts -/
noncomputable def clsBody (p : Params) : List Stmt := match (fdOf p 35).body with | .stmts (.ClassDef _ _ _ b _ _ _ _ _ _ _ :: _) => b | _ => []
noncomputable def mth (p : Params) (k : Nat) : Arguments × List Stmt × Scope := match (clsBody p)[k]? with | some (.FunctionDef _ a b _ _ _ s _ _ _) => (a, b, s) | _ => (parR, [], default)
theorem fn_lk {h h' : Heap} {f : Addr} {fd : FuncData} (k : Lk (fun _ => True) h h') (e : h.get? f = some { cls := .type "function", data := .func fd }) : h'.get? f = some { cls := .type "function", data := .func fd } := k _ _ trivial e ⟨(fun _ _ q => nomatch q), .inl fun q => nomatch q⟩
theorem li_lk {h h' : Heap} {f : Addr} {vs : Array Value} {n : Nat} (k : Lk (fun _ => True) h h') (e : h.get? f = some { cls := .type "list", data := .seq vs n }) : h'.get? f = some { cls := .type "list", data := .seq vs n } := k _ _ trivial e ⟨(fun _ _ q => nomatch q), .inl fun q => nomatch q⟩
theorem tu_lk {h h' : Heap} {f : Addr} {vs : Array Value} {n : Nat} (k : Lk (fun _ => True) h h') (e : h.get? f = some { cls := .type "tuple", data := .seq vs n }) : h'.get? f = some { cls := .type "tuple", data := .seq vs n } := k _ _ trivial e ⟨(fun _ _ q => nomatch q), .inl fun q => nomatch q⟩
theorem FD.lk {h h' : Heap} {fd a b s c q} (k : Lk (fun _ => True) h h') (x : FD h fd a b s c q) : FD h' fd a b s c q :=
  ⟨x.pa, x.bo, x.sc, x.gl, x.bu, x.cl, x.qu, x.de, let ⟨m, e, r⟩ := x.co; ⟨m, e, r.keep fun o e hc => k _ _ trivial e ⟨(fun es n q => by obtain ⟨o', vs, t, a', b', d', _⟩ := r; rw [a'] at e; cases e; rw [d'] at q; cases q), .inl fun q => by rw [hc] at q; cases q⟩⟩⟩
theorem FD.kp {h h' : Heap} {fd a b s c q} (k : ∀ b o, h.get? b = some o → h'.get? b = some o) (x : FD h fd a b s c q) : FD h' fd a b s c q := x.lk fun b o _ e _ => k b o e
theorem dom_step {m : Str → Option Value} {L : List Str} {x : Str} {v : Value} (H : ∀ n, m n ≠ none → n ∈ L) : ∀ n, (if n = x then some v else m n) ≠ none → n ∈ x :: L := fun n hn => by
  by_cases h : n = x
  · exact h ▸ List.mem_cons_self
  · rw [if_neg h] at hn; exact List.mem_cons_of_mem _ (H n hn)
theorem val_step {h : Heap} {m : Str → Option Value} {x : Str} {v : Value} (hv : SNone h v) (H : ∀ n v', m n = some v' → SNone h v') : ∀ n v', (if n = x then some v else m n) = some v' → SNone h v' := fun n v' hn => by
  by_cases hx : n = x
  · rw [if_pos hx] at hn; cases hn; exact hv
  · rw [if_neg hx] at hn; exact H n v' hn
theorem new_old {p Z h₀ L h m} {N : Addr} (F : Fx p Z h₀ L h m) (hn : h.get? N = none) : h₀.get? N = none := by
  cases e : h₀.get? N with
  | none => rfl
  | some o =>
    by_cases ht : isTab N
    · obtain ⟨vs, q⟩ := F.tb.none ht; rw [q] at hn; cases hn
    · rw [F.ev.1 _ _ e ht] at hn; cases hn
theorem CB.obj {hB h : Heap} {N cc P ps D nm} (C : CB hB h N cc P ps D nm) (T : Tb hB) (nB : ∃ o, hB.get? N = some o ∧ o.cls = .type "dict") {b : Addr} {o : Obj} (e : hB.get? b = some o) (hd : o.cls ≠ .type "dict") (hk : Kp o) : h.get? b = some o := by
  refine C.kb b o e ?_ ?_
  · obtain ⟨vs, e30⟩ := T.none (.inl rfl)
    rintro rfl; rw [e] at e30; cases e30; exact hk.2.elim (fun x => x rfl) fun x => x _ rfl
  · obtain ⟨oN, eN, cN⟩ := nB
    rintro rfl; rw [e] at eN; cases eN; exact hd cN
/-- the class that cmp_to_key gives back -/
structure KC (p : Params) (h : Heap) (v : Value) (a ns md f0 f1 c : Addr) (fd0 fd1 : FuncData) (es : Array DictEntry) : Prop where
  cls : ∃ B tn u1, h.get? a = some (kCls a ns B tn u1)
  ns : h.Ns ns (mFin es md)
  md : ∃ tk, h.get? md = some (mdObj tk a)
  i0 : nsFind es (Str.ofString "__init__") = some (.ref f0)
  o0 : h.get? f0 = some { cls := .type "function", data := .func fd0 }
  d0 : FD h fd0 (mth p 2).1 (mth p 2).2.1 (mth p 2).2.2 [] (Str.ofString "cmp_to_key.<locals>.K.__init__")
  i1 : nsFind es (Str.ofString "__lt__") = some (.ref f1)
  o1 : h.get? f1 = some { cls := .type "function", data := .func fd1 }
  d1 : FD h fd1 (mth p 3).1 (mth p 3).2.1 (mth p 3).2.2 [(Str.ofString "mycmp", c)] (Str.ofString "cmp_to_key.<locals>.K.__lt__")
  ce : CL (fun _ => True) h c v
  dom : ∀ n, nsFind es n ≠ none → n ∈ ([Str.ofString "__static_attributes__", Str.ofString "__hash__", Str.ofString "__ge__", Str.ofString "__le__", Str.ofString "__eq__", Str.ofString "__gt__", Str.ofString "__lt__", Str.ofString "__init__", Str.ofString "__slots__", Str.ofString "__module__", Str.ofString "__firstlineno__", Str.ofString "__qualname__", Str.ofString "__module__"] : List Str)
end Mine
end

section
-- part KT3
open PySem PySem.W PyProof.Rows
set_option maxRecDepth 100000
set_option maxHeartbeats 1000000
namespace Mine
abbrev L12 : List Str := [Str.ofString "__static_attributes__", Str.ofString "__hash__", Str.ofString "__ge__", Str.ofString "__le__", Str.ofString "__eq__", Str.ofString "__gt__", Str.ofString "__lt__", Str.ofString "__init__", Str.ofString "__slots__", Str.ofString "__module__", Str.ofString "__firstlineno__", Str.ofString "__qualname__", Str.ofString "__module__"]
section
variable {w : World} {A : Around} {E : Value → Shared → Prop} {d : Drawn} {t : Nat} {os : OsState} {h4 h6 h₀ : Heap} {N cc P B L c f0 f1 : Addr} {ps : Array Value} {D : List (Nat × Str)} {nm m : Str → Option Value} {Z : Addr → Prop} {v : Value} {fd0 fd1 : FuncData} {tn u1 : Nat}
theorem ctk_tail {Q : Value → Shared → Prop} (C6 : CB h4 h6 N cc P ps D nm) (F4 : Fx w.params Z h₀ L h4 m) (hu : A.units < 4700) (hd : A.depth < 480) (hall : ∀ q ∈ kMeth, q ∈ D) (hLN : L ≠ N) (hN0 : h₀.get? N = none) (nX : ∃ nm0, Nx h4 N nm0) (n1 : (N == sysModules) = false)
   (tb4 : TB Z h4 B [.type "object"]) (cl4 : CL Z h4 c v) (s : ∃ vS ts, nm (S "__slots__") = some (.ref vS) ∧ h6.get? vS = some { cls := .type "list", data := .seq #[.str (S "obj") ts] 0 }) (q : nm "__qualname__" = some (.str kq u1))
   (no : nm "__doc__" = none ∧ nm "__new__" = none ∧ nm "__init_subclass__" = none ∧ nm "__class_getitem__" = none ∧ nm "__classcell__" = none ∧ nm "__classdictcell__" = none ∧ nm (S "obj") = none ∧ nm "__del__" = none)
   (mo : ∃ v, nm "__module__" = some v) (eq : ∃ v, nm "__eq__" = some v) (ha : nm "__hash__" = some .none) (dom : ∀ n, nm n ≠ none → n ∈ L12) (val : ∀ n v, nm n = some v → SNone h6 v)
   (i0 : nm (Str.ofString "__init__") = some (.ref f0)) (o0 : h6.get? f0 = some { cls := .type "function", data := .func fd0 }) (d0 : FD h6 fd0 (mth w.params 2).1 (mth w.params 2).2.1 (mth w.params 2).2.2 [] (Str.ofString "cmp_to_key.<locals>.K.__init__"))
   (i1 : nm (Str.ofString "__lt__") = some (.ref f1)) (o1 : h6.get? f1 = some { cls := .type "function", data := .func fd1 }) (d1 : FD h6 fd1 (mth w.params 3).1 (mth w.params 3).2.1 (mth w.params 3).2.2 [(Str.ofString "mycmp", c)] (Str.ofString "cmp_to_key.<locals>.K.__lt__"))
   (hq : ∀ h' tk a ns md es, Fx w.params Z h₀ L h' m → KC w.params h' v a ns md f0 f1 c fd0 fd1 es → Q (.ref a) ⟨h', #[], d, tk, os⟩) :
   wpAny (model Challenge.pw_sn0002_01 w) A (call (.type "type") [.str (S "K") tn, .ref B, .ref N]) Q E ⟨h6, #[], d, t, os⟩ := by
  have nB : ∃ o, h4.get? N = some o ∧ o.cls = .type "dict" := let ⟨_, x⟩ := nX; x.dict
  have F6 := C6.fx F4 hLN hN0 nB hall
  have nd : ∀ {T : String}, T ≠ "dict" → Value.type T ≠ .type "dict" := fun hT e => by injection e with e; exact hT e
  have b6 : h6.get? B = some { cls := .type "tuple", data := .seq #[.type "object"] 0 } := C6.obj F4.tb nB tb4.2 (nd (by decide)) ⟨(fun _ _ q => nomatch q), .inl fun q => nomatch q⟩
  obtain ⟨zc, oc, ec, dc⟩ := cl4
  have c6 : h6.get? c = some oc := by
    refine C6.kb c oc ec ?_ ?_
    · obtain ⟨vs, e30⟩ := F4.tb.none (.inl rfl)
      rintro rfl; rw [ec] at e30; cases e30; cases dc
    · obtain ⟨nm0, es, ep, aN, _⟩ := nX
      rintro rfl; rw [aN] at ec; cases ec; cases dc
  refine r_tcall F6.kx hu hd ⟨C6.n, n1, b6, s, q, no, mo, eq, ha, ⟨L12, by decide, dom⟩, val⟩ fun h' a ns md tk tk' es hk ha' hm hns hmd => ?_
  obtain ⟨F7, _⟩ := F6.keepN hk
  exact hq h' tk a ns md es F7 ⟨⟨B, tn, u1, ha'⟩, hns, ⟨tk', hmd⟩, (hm _).trans i0, hk _ _ o0, d0.kp hk, (hm _).trans i1, hk _ _ o1, d1.kp hk, ⟨trivial, oc, hk _ _ c6, dc⟩, fun n hn => dom n (by rw [← hm]; exact hn)⟩
end
theorem KC.set {p Z h₀ L h h' v a ns md f0 f1 c fd0 fd1 es} (K : KC p h v a ns md f0 f1 c fd0 fd1 es) (F : Fx p Z h₀ L h (fun _ => none)) (hs : Heap.SameBut L h h') : KC p h' v a ns md f0 f1 c fd0 fd1 es := by
  obtain ⟨oL, eL, nL, aL, bL, _, rL⟩ := F.ns
  have k : ∀ b o, h.get? b = some o → (∀ es n, o.data ≠ .dict es n) → h'.get? b = some o := fun b o e hd => hs.extBut _ _ (by rintro rfl; rw [aL] at e; cases e; exact hd _ _ bL) e
  have hnL : ns ≠ L := by
    rintro rfl
    obtain ⟨o, es', n', a', b', _, r'⟩ := K.ns
    rw [aL] at a'; cases a'
    rw [bL] at b'; cases b'
    have h1 := rL (Str.ofString "__init__")
    rw [r', show mFin es md (Str.ofString "__init__") = nsFind es (Str.ofString "__init__") from by show (if _ then _ else if _ then _ else if _ then _ else _) = _; rw [if_neg (by decide), if_neg (by decide), if_neg (by decide)], K.i0] at h1
    cases h1
  obtain ⟨B, tn, u1, ea⟩ := K.cls
  obtain ⟨tk, emd⟩ := K.md
  have lk : Lk (fun _ => True) h h' := fun b o _ e hk => k b o e hk.1
  exact ⟨⟨B, tn, u1, k _ _ ea fun _ _ q => nomatch q⟩, let ⟨o, es', n', a', r⟩ := K.ns; ⟨o, es', n', hs.extBut _ _ hnL a', r⟩, ⟨tk, k _ _ emd fun _ _ q => nomatch q⟩, K.i0, fn_lk lk K.o0, K.d0.lk lk, K.i1, fn_lk lk K.o1, K.d1.lk lk, K.ce.lk lk, K.dom⟩
theorem FD.conv {h fd a b s c q a' b' s'} (x : FD h fd a b s c q) (e1 : a' = a) (e2 : b' = b) (e3 : s' = s) : FD h fd a' b' s' c q := by subst e1 e2 e3; exact x
theorem sn_fn {h : Heap} {f : Addr} {fd : FuncData} (e : h.get? f = some { cls := .type "function", data := .func fd }) : SNone h (.ref f) := sn_ref e rfl sl_fn
theorem sn_li {h : Heap} {f : Addr} {vs : Array Value} {n : Nat} (e : h.get? f = some { cls := .type "list", data := .seq vs n }) : SNone h (.ref f) := sn_ref e rfl sl_li
theorem sn_tu {h : Heap} {f : Addr} {vs : Array Value} {n : Nat} (e : h.get? f = some { cls := .type "tuple", data := .seq vs n }) : SNone h (.ref f) := sn_ref e rfl sl_tu
section
variable {w : World} {E : Value → Shared → Prop} {h : Heap} {g : Array GenState} {d : Drawn} {t : Nat} {os : OsState} {M : Model} {A : Around} {env : Env} {Z : Addr → Prop} {h₀ : Heap} {L : Addr} {m : Str → Option Value}
theorem stK {x : Str} {v : Value} {a : Addr} {Q : Unit → Shared → Prop} (F : Fx w.params Z h₀ L h m) (I : EI w.params a L env) (hl : (fdOf w.params a).scope.names.lookup x = some .local)
    (hq : ∀ h', Fx w.params Z h₀ L h' (fun y => if y = x then some v else m y) → Lk Z h h' → Heap.SameBut L h h' → Q () ⟨h', g, d, t + 1, os⟩) : wpAny M A (storeName env x v) Q E ⟨h, g, d, t, os⟩ :=
  stl F.ns I (fun h' hn hs => let ⟨F', k⟩ := F.set hn hs (Nat.le_of_eq hs.1.symm); hq h' F' k hs) hl
end
end Mine
end

section
-- part KI
open PySem PySem.W PyProof.Rows
set_option maxRecDepth 100000
set_option maxHeartbeats 1000000
namespace Mine
structure KFr (F : Frag) (h : Heap) (a md f0 f1 : Addr) : Prop where
  inn : F.In h
  ini : findIn F (.ref a) "__init__" = some (some (.ref f0))
  t0 : typeIn F (.ref f0) = some (.type "function")
  less : findIn F (.ref a) "__lt__" = some (some (.ref f1))
  fn1 : isFn F (.ref f1) = true
  mak : makesIn F a = true
  sa : findIn F (.ref a) "__setattr__" = some (some (.builtin "object.__setattr__"))
  po : plainOver F a = true
  tk : takerIn F a "obj" = some (some (.ref md))
  tm : typeIn F (.ref md) = some (.type "member_descriptor")
  si : slotIn F md a = some 0
  pg : plainGet F a "obj" = true
  ic : isClsIn F a = true
  ob : findIn F (.ref a) "obj" = some (some (.ref md))
  gg : specialIn F (.ref md) "__get__" = some (some (.builtin "member_descriptor.__get__"))
  tt : takesIn F (.ref md) = some true
theorem fx_md1 : findIn [] (.type "member_descriptor") "__get__" = some (some (.builtin "member_descriptor.__get__")) := by decide +kernel
theorem fx_md2 : findIn [] (.type "member_descriptor") "__set__" = some (some (.builtin "member_descriptor.__set__")) := by decide +kernel
theorem fx_tc : findIn [] (.type "type") "__call__" = some (some (.builtin "type.__call__")) := by decide +kernel
theorem fx_tt : subIn [] (.type "type") (.type "type") = some true := by decide +kernel
theorem fo_sa : fastBuiltinOwn "object" "__setattr__" = some (.builtin "object.__setattr__") := by decide +kernel
theorem fo_ga : fastBuiltinOwn "object" "__getattribute__" = some (.builtin "object.__getattribute__") := by decide +kernel
theorem fo_gt : fastBuiltinOwn "object" "__getattr__" = none := by decide +kernel
theorem KC.kfr {p h v a ns md f0 f1 c fd0 fd1 es} (K : KC p h v a ns md f0 f1 c fd0 fd1 es) : ∃ F, KFr F h a md f0 f1 := by
  obtain ⟨B, tn, u1, ea⟩ := K.cls
  obtain ⟨on, es', n', en, dn, sk, nf⟩ := K.ns
  obtain ⟨tk, em⟩ := K.md
  have e0 := K.o0
  have e1 := K.o1
  have na : ns ≠ a := by rintro rfl; rw [en] at ea; cases ea; cases dn
  have ma : md ≠ a := by rintro rfl; exact nomatch (congrArg Obj.data (Option.some.inj (em.symm.trans ea)))
  have mn : md ≠ ns := by rintro rfl; rw [em] at en; cases en; cases dn
  have fa : f0 ≠ a := by rintro rfl; exact nomatch (congrArg Obj.data (Option.some.inj (e0.symm.trans ea)))
  have fn : f0 ≠ ns := by rintro rfl; rw [e0] at en; cases en; cases dn
  have fm : f0 ≠ md := by rintro rfl; exact nomatch (congrArg Obj.data (Option.some.inj (e0.symm.trans em)))
  have ga : f1 ≠ a := by rintro rfl; exact nomatch (congrArg Obj.data (Option.some.inj (e1.symm.trans ea)))
  have gn : f1 ≠ ns := by rintro rfl; rw [e1] at en; cases en; cases dn
  have gm : f1 ≠ md := by rintro rfl; exact nomatch (congrArg Obj.data (Option.some.inj (e1.symm.trans em)))
  have bf : ∀ {x y : Addr}, x ≠ y → (x == y) = false := fun h => by simpa using h
  have la : List.lookup a [(a, kCls a ns B tn u1), (ns, on), (md, mdObj tk a), (f0, { cls := .type "function", data := .func fd0 }), (f1, { cls := .type "function", data := .func fd1 })] = some (kCls a ns B tn u1) := by simp [List.lookup]
  have ln : List.lookup ns [(a, kCls a ns B tn u1), (ns, on), (md, mdObj tk a), (f0, { cls := .type "function", data := .func fd0 }), (f1, { cls := .type "function", data := .func fd1 })] = some on := by simp [List.lookup, bf na]
  have lm : List.lookup md [(a, kCls a ns B tn u1), (ns, on), (md, mdObj tk a), (f0, { cls := .type "function", data := .func fd0 }), (f1, { cls := .type "function", data := .func fd1 })] = some (mdObj tk a) := by simp [List.lookup, bf ma, bf mn]
  have l0 : List.lookup f0 [(a, kCls a ns B tn u1), (ns, on), (md, mdObj tk a), (f0, { cls := .type "function", data := .func fd0 }), (f1, { cls := .type "function", data := .func fd1 })] = some { cls := .type "function", data := .func fd0 } := by simp [List.lookup, bf fa, bf fn, bf fm]
  have l1 : ∃ fd, List.lookup f1 [(a, kCls a ns B tn u1), (ns, on), (md, mdObj tk a), (f0, { cls := .type "function", data := .func fd0 }), (f1, { cls := .type "function", data := .func fd1 })] = some { cls := .type "function", data := .func fd } := by
    by_cases q : f1 = f0
    · subst q; exact ⟨_, l0⟩
    · exact ⟨fd1, by simp [List.lookup, bf ga, bf gn, bf gm, bf q]⟩
  have inn : Frag.In [(a, kCls a ns B tn u1), (ns, on), (md, mdObj tk a), (f0, { cls := .type "function", data := .func fd0 }), (f1, { cls := .type "function", data := .func fd1 })] h := by
    intro b o e
    simp only [List.lookup] at e
    repeat' split at e
    all_goals first | (cases e; rename_i q; rw [beq_iff_eq] at q; subst q; assumption) | cases e
  obtain ⟨fd, l1⟩ := l1
  generalize [(a, kCls a ns B tn u1), (ns, on), (md, mdObj tk a), (f0, { cls := .type "function", data := .func fd0 }), (f1, { cls := .type "function", data := .func fd1 })] = F at *
  have hn : ∀ x, nsIn F ns x = some (mFin es md x) := fun x => by
    unfold nsIn
    rw [ln]
    obtain ⟨oc, od, oda, osl⟩ := on
    dsimp only at dn
    subst dn
    dsimp only
    rw [← nf x]
    unfold nsFind findBy
    rw [← Array.find?_toList]
    cases q : es'.toList.find? (fun e => e.key.isStr x) with
    | some e => rfl
    | none =>
      dsimp only
      rw [if_neg]
      · rfl
      · rw [List.any_eq_true]
        rintro ⟨e, he, hr⟩
        obtain ⟨n, t, hk⟩ := sk e (Array.mem_toList_iff.mp he)
        unfold DictEntry.refKey at hr
        rw [hk] at hr
        cases hr
  have own : ∀ x v, mFin es md x = some v → findIn F (.ref a) x = some (some v) := fun x v e => by
    simp only [findIn, la, alongIn, ownIn, hn, e]
  have obj : ∀ x, mFin es md x = none → ∀ r, fastBuiltinOwn "object" x = r → findIn F (.ref a) x = some r := fun x e r hr => by
    simp only [findIn, la, alongIn, ownIn, hn, e, hr]
    cases r <;> rfl
  have hno : ∀ x, x ∉ ([Str.ofString "__static_attributes__", Str.ofString "__hash__", Str.ofString "__ge__", Str.ofString "__le__", Str.ofString "__eq__", Str.ofString "__gt__", Str.ofString "__lt__", Str.ofString "__init__", Str.ofString "__slots__", Str.ofString "__module__", Str.ofString "__firstlineno__", Str.ofString "__qualname__", Str.ofString "__module__"] : List Str) → x ≠ Str.ofString "__doc__" → x ≠ S "obj" → mFin es md x = none := fun x h1 h2 h3 => by
    show (if _ then _ else if _ then _ else if _ then _ else _) = _
    rw [if_neg h2, if_neg h3]
    split
    · rfl
    · cases q : nsFind es x with
      | none => rfl
      | some v => exact absurd (K.dom x (by rw [q]; exact Option.some_ne_none _)) h1
  have mi : mFin es md (Str.ofString "__init__") = some (.ref f0) := by
    show (if _ then _ else if _ then _ else if _ then _ else _) = _
    rw [if_neg (by decide), if_neg (by decide), if_neg (by decide)]; exact K.i0
  have ml : mFin es md (Str.ofString "__lt__") = some (.ref f1) := by
    show (if _ then _ else if _ then _ else if _ then _ else _) = _
    rw [if_neg (by decide), if_neg (by decide), if_neg (by decide)]; exact K.i1
  have mo : mFin es md (S "obj") = some (.ref md) := by
    show (if _ then _ else if _ then _ else if _ then _ else _) = _
    rw [if_neg (by decide), if_pos rfl]
  have tmd : typeIn F (.ref md) = some (.type "member_descriptor") := by simp only [typeIn, lm]; rfl
  have s1 : specialIn F (.ref md) "__set__" = some (some (.builtin "member_descriptor.__set__")) := by
    unfold specialIn; rw [tmd]; exact fx_md2
  have tt : takesIn F (.ref md) = some true := by unfold takesIn; rw [s1]
  have oo := own _ _ mo
  have cl : clsIn F a = some { name := S "K", bases := [.type "object"], mro := [.ref a, .type "object"], ns := ns, qualname := kq, hasDict := false, slotNames := [S "obj"] } := by unfold clsIn; rw [la]
  refine ⟨F, inn, own _ _ mi, by simp only [typeIn, l0]; rfl, own _ _ ml, by unfold isFn; simp only [typeIn, l1]; rfl, ?_, obj _ (hno _ (by decide) (by decide) (by decide)) _ fo_sa, ?_, ?_, tmd, ?_, ?_, by unfold isClsIn; rw [cl]; rfl, oo, ?_, tt⟩
  · unfold makesIn
    rw [la]
    have q1 : specialIn F (.ref a) "__call__" = some (some (.builtin "type.__call__")) := by
      unfold specialIn; simp only [typeIn, la]; exact fx_tc
    have q2 : instIn F (.ref a) (.type "type") = some true := by
      unfold instIn; simp only [typeIn, la]; exact fx_tt
    dsimp only
    rw [q1, q2]
    simp
  · unfold plainOver; rw [cl]; rfl
  · unfold takerIn
    rw [oo]
    simp [tt]
  · unfold slotIn recIn
    rw [cl, lm]
    simp [rawInt]
  · unfold plainGet
    rw [obj _ (hno _ (by decide) (by decide) (by decide)) _ fo_ga, obj _ (hno _ (by decide) (by decide) (by decide)) _ fo_gt]
    simp
  · unfold specialIn; rw [tmd]; exact fx_md1
end Mine
end

section
-- part KJ
open PySem PySem.W PyProof.Rows
set_option maxRecDepth 100000
set_option maxHeartbeats 1000000
namespace Mine
theorem m2_body (p : Params) : ∃ p1 p2 p3 p4, (mth p 2).2.1 = [.Assign [.Attribute (.Name (Str.ofString "self") p1) (Str.ofString "obj") p2] (.Name (Str.ofString "obj") p3) p4] := ⟨_, _, _, _, rfl⟩
theorem m3_body (p : Params) : ∃ p1 p2 p3 p4 p5 p6 p7 p8 p9 p10, (mth p 3).2.1 = [.Return (some (.Compare (.Call (.Name (Str.ofString "mycmp") p1) [.Attribute (.Name (Str.ofString "self") p2) (Str.ofString "obj") p3, .Attribute (.Name (Str.ofString "other") p4) (Str.ofString "obj") p5] [] p6) [.Lt] [.Constant (.int 0) p7 p10] p8)) p9] := ⟨_, _, _, _, _, _, _, _, _, _, rfl⟩
end Mine
namespace Mine
structure ED (scope : Scope) (clo : List (Str × Addr)) (L : Addr) (env : Env) : Prop where
  kd : env.scope.kind = .function
  gs : env.globals = 3
  bs : env.builtins = 0
  lo : env.locals = L
  ko : ∀ {x : Str} {k : NameKind}, scope.names.lookup x = some k → env.kindOf x = some k
  ce : env.cells = clo
section
variable {prog : Program} {w : World} {M : Model} {A : Around} {E : Value → Shared → Prop} {h : Heap} {g : Array GenState} {d : Drawn} {t : Nat} {os : OsState} {scope : Scope} {clo : List (Str × Addr)} {L : Addr} {env : Env} {m : Str → Option Value}
theorem dLoc {x : Str} {pos : Pos} {v : Value} {Q : Value → Shared → Prop} (N : h.Ns L m) (I : ED scope clo L env) (hv : m x = some v) (hl : scope.names.lookup x = some .local) (hd : (x == ("__debug__" : Str)) = false) (hq : Q v ⟨h, g, d, t, os⟩) :
    wpAny M A (eval (.Name x pos) env) Q E ⟨h, g, d, t, os⟩ := wpAny_Name (s := ⟨h, g, d, t, os⟩) (wpAny_loadName_local I.kd (I.ko hl) (I.lo.symm ▸ N) hv hq) hd
theorem dFree {x : Str} {pos : Pos} {v : Value} {c : Addr} {Q : Value → Shared → Prop} (I : ED scope clo L env) (hl : scope.names.lookup x = some .free) (hc : clo.lookup x = some c) (hv : h.IsCell c (some v)) (hd : (x == ("__debug__" : Str)) = false) (hn : (x == ("__classdict__" : Str)) = false) (hq : Q v ⟨h, g, d, t, os⟩) :
    wpAny M A (eval (.Name x pos) env) Q E ⟨h, g, d, t, os⟩ := wpAny_Name (s := ⟨h, g, d, t, os⟩) (wpAny_loadName_free I.kd (I.ko hl) (by rw [I.ce]; exact hc) hv hq hn) hd
theorem codeD {f : Addr} {fd : FuncData} {params : Arguments} {body : List Stmt} {q : Str} {args : List Value} {binds : List (Str × Value)} {R : Result → Shared → Prop} (KX : Frag.In (KT w.params) h)
   (ho : h.get? f = some { cls := .type "function", data := .func fd }) (D : FD h fd params body scope clo q) (hroom : A.depth < recursionLimit) (hbind : BindsTo ⟨h, g, d, t, os⟩ fd ⟨args, []⟩ binds)
   (hloc : binds.all (fun x => decide (scope.names.lookup x.1 = some .local)) = true) (hcell : scope.names.all (fun x => x.2 != .cell) = true) (hk : scope.kind = .function) (hco : scope.isCoroutine = false) (hgen : scope.isGenerator = false)
   (hq : ∀ h₁ L, h₁.Ns L (fun x => binds.reverse.lookup x) → (∀ b o, h.get? b = some o → h₁.get? b = some o) → h.get? L = none → h.objs.size ≤ L → ∀ t' env, ED scope clo L env →
     wpAny (model prog w) (A.deeper env) (execs body env) (fun f s' => R (.ok (.ret (match f with | .ret v => v | _ => .none))) s') (fun _ _ => False) ⟨h₁, g, d, t', os⟩) :
   codeAny (model prog w) A (.call (.ref f) ⟨args, []⟩) R ⟨h, g, d, t, os⟩ := by
  obtain ⟨p1, p2, p3, p4, p5, p6, p7, p8, ⟨mm, p9, p10⟩⟩ := D
  subst p3 p6
  have hcd : h.CodeRec fd.code fd.qualname := by rw [p9, p7]; exact p10.rec
  refine codeAny_call_function hroom ho rfl hco hgen p2 hcd ?_
  refine hbind _ _ _ _ (wpAny_newFunctionEnv (fun x hx => by simpa using List.all_eq_true.mp hcell x hx) (locs hloc) (fun h₁ hns hsb => ⟨(noLim KX).fresh _ hsb, ?_⟩) hk)
  refine codeAny_func (wpAny_mono (hq h₁ h.objs.size hns (fun b o e => hsb.extBut b o (Nat.ne_of_lt (Heap.lt_size e)) (Heap.get?_push_of_some _ e)) (Heap.get?_none_of_le (Nat.le_refl _)) (Nat.le_refl _) _ _ ⟨hk, p4, p5, rfl, fun e => e, rfl⟩) (fun _ _ x => x) fun _ _ z => z.elim)
theorem bind2 {fd : FuncData} {params : Arguments} {body : List Stmt} {q : Str} (D : FD h fd params body scope clo q) {x y : Value} {s : Shared} {n1 n2 : Str} (e : ∀ fd : FuncData, fd.params = params → fd.defaults = .none → bindArgs fd ⟨[x, y], []⟩ = pure [(n1, x), (n2, y)]) : BindsTo s fd ⟨[x, y], []⟩ [(n1, x), (n2, y)] :=
  .of_eq (e fd D.pa D.de)
theorem b_init (p : Params) (x y : Value) : ∀ fd : FuncData, fd.params = (mth p 2).1 → fd.defaults = .none → bindArgs fd ⟨[x, y], []⟩ = pure [(Str.ofString "self", x), (Str.ofString "obj", y)] := fun fd e e' => by
  obtain ⟨n, q, pa, bo, sc, gl, cl, de, kd, dc, py, an, co, ct, bu⟩ := fd
  dsimp only at e e'
  subst e e'
  kernel_rfl
theorem b_lt (p : Params) (x y : Value) : ∀ fd : FuncData, fd.params = (mth p 3).1 → fd.defaults = .none → bindArgs fd ⟨[x, y], []⟩ = pure [(Str.ofString "self", x), (Str.ofString "other", y)] := fun fd e e' => by
  obtain ⟨n, q, pa, bo, sc, gl, cl, de, kd, dc, py, an, co, ct, bu⟩ := fd
  dsimp only at e e'
  subst e e'
  kernel_rfl
/-- a key -/
def KO (h : Heap) (a x : Addr) (v : Value) : Prop := ∃ dx, h.get? x = some { cls := .ref a, dict := some dx, data := .plain, slots := #[some v] } ∧ h.get? dx = some emptyDict
theorem w_kx {v x : Value} {a ns md f0 f1 c : Addr} {fd0 fd1 : FuncData} {es : Array DictEntry} {Q : Value → Shared → Prop} (KX : Frag.In (KT w.params) h) (K : KC w.params h v a ns md f0 f1 c fd0 fd1 es) (hd : A.depth < 900)
   (hq : ∀ h' tk y dy, (∀ b o, h.get? b = some o → h'.get? b = some o) → h.objs.size ≤ h'.objs.size → h.objs.size ≤ y → h.objs.size ≤ dy → h'.get? y = some { cls := .ref a, dict := some dy, data := .plain, slots := #[some x] } → h'.get? dy = some emptyDict → Q (.ref y) ⟨h', g, d, tk, os⟩) :
   wpAny (model prog w) A (call (.ref a) [x]) Q E ⟨h, g, d, t, os⟩ := by
  have hR : recursionLimit = 1000 := rfl
  obtain ⟨F, P⟩ := K.kfr
  have k1 : ∀ b o, h.get? b = some o → ((h.push emptyDict).push (instObj a h.objs.size)).get? b = some o := fun b o e => Heap.get?_push_of_some _ (Heap.get?_push_of_some _ e)
  have hs1 : ((h.push emptyDict).push (instObj a h.objs.size)).objs.size = h.objs.size + 2 := by simp [Heap.size_push]
  have ex : ((h.push emptyDict).push (instObj a h.objs.size)).get? (h.objs.size + 1) = some (instObj a h.objs.size) := by heap_get
  have ed : ((h.push emptyDict).push (instObj a h.objs.size)).get? h.objs.size = some emptyDict := Heap.get?_push_of_some _ (Heap.get?_push_at rfl rfl)
  refine wpAny_call (make_core (makes_of P.inn P.mak) (looks_findIn P.inn P.ini) (fun self => bind_fn P.inn self P.t0) (.inl rfl) ?_)
  obtain ⟨p1, p2, p3, p4, eb⟩ := m2_body w.params
  generalize hb : ((h.push emptyDict).push (instObj a h.objs.size)) = hh at *
  refine codeD (KX.keeps k1) (k1 _ _ K.o0) (K.d0.kp k1) ?_ (bind2 (K.d0.kp k1) (b_init w.params _ _)) (by kernel_rfl) (by kernel_rfl) (by kernel_rfl) (by kernel_rfl) (by kernel_rfl) fun h₁ L N k2 hL hsL t' env I => ?_
  · show A.depth + 1 < recursionLimit; lia
  rw [eb]
  have FR : Fr h L h₁ (fun z => List.lookup z [(Str.ofString "obj", x), (Str.ofString "self", .ref (h.objs.size + 1))]) := ⟨N, fun b o e => k2 _ _ (k1 _ _ e), by lia⟩
  have NE : News h L h₁ [(h.objs.size + 1, instObj a h.objs.size), (h.objs.size, emptyDict)] := by
    intro p hp
    simp only [List.mem_cons, List.not_mem_nil, or_false] at hp
    rcases hp with rfl | rfl
    · exact ⟨k2 _ _ ex, by show h.objs.size + 1 ≠ L; lia, Heap.get?_none_of_le (Nat.le_succ _)⟩
    · exact ⟨k2 _ _ ed, by show h.objs.size ≠ L; lia, Heap.get?_none_of_le (Nat.le_refl _)⟩
  refine wpAny_execs_cons (plainObj_wpAny_Assign_Attribute ?_ rfl)
  refine dLoc N I rfl (by kernel_rfl) (by kernel_rfl) (dLoc N I rfl (by kernel_rfl) (by kernel_rfl) ?_)
  have II : InstAt h₁ (h.objs.size + 1) (instObj a h.objs.size) a (some emptyDict) := .of_news NE (.head _) (.tail _ (.head _))
  refine set_slot (s := ⟨h₁, g, d, t', os⟩) FR P.inn NE II P.sa P.po P.tk P.tm P.si (by decide) (ox' := { cls := .ref a, dict := some h.objs.size, data := .plain, slots := #[some x] }) rfl rfl (.head (fun p hp => ?_)) fun h' F' N' => ?_
  · simp only [List.mem_cons, List.not_mem_nil, or_false] at hp
    subst hp
    exact Nat.ne_of_lt (Nat.lt_succ_self _)
  refine wpAny_execs_nil ⟨rfl, hq h' _ _ _ F'.keep ?_ (Nat.le_succ _) (Nat.le_refl _) (N' _ (.head _)).1 (N' _ (.tail _ (.head _))).1⟩
  exact Nat.le_of_lt (Nat.lt_of_le_of_lt F'.above F'.ns.lt)
end
end Mine
end

section
-- part KL
open PySem PySem.W PyProof.Rows
set_option maxRecDepth 100000
set_option maxHeartbeats 1000000
namespace Mine
section
variable {prog : Program} {w : World} {M : Model} {A : Around} {E : Value → Shared → Prop} {h : Heap} {g : Array GenState} {d : Drawn} {t : Nat} {os : OsState} {scope : Scope} {clo : List (Str × Addr)} {L : Addr} {env : Env} {m : Str → Option Value}
theorem dAttr {x attr : Str} {p1 p2 : Pos} {Q : Value → Shared → Prop} {s : Shared} (hq : wpAny M A (eval (.Name x p1) env) (fun o s' => wpAny M A (getAttr o attr true) Q E s') E s) : wpAny M A (eval (.Attribute (.Name x p1) attr p2) env) Q E s := by
  rw [arm_eval_Attribute]
  refine wpAny_bind (wpAny_mono (show wpAny M A (eval (.Name x p1) env) _ _ _ from hq) (fun o s' h' => ?_) fun _ _ z => z)
  refine wpAny_bind (wpAny_standAt (wpAny_bind (wpAny_holding (wpAny_mono h' (fun r s'' h'' => ?_) fun _ _ z => z))))
  exact wpAny_bind (wpAny_pure (wpAny_pure h''))
theorem KO.inst {a x : Addr} {v : Value} (k : KO h a x v) : ∃ dx, InstAt h x { cls := .ref a, dict := some dx, data := .plain, slots := #[some v] } a (some emptyDict) := let ⟨dx, e1, e2⟩ := k; ⟨dx, e1, rfl, rfl, e2⟩
theorem KO.kp {h' : Heap} {a x : Addr} {v : Value} (kp : ∀ b o, h.get? b = some o → h'.get? b = some o) (k : KO h a x v) : KO h' a x v := let ⟨dx, e1, e2⟩ := k; ⟨dx, kp _ _ e1, kp _ _ e2⟩
theorem gObj {F : Frag} {a x md f0 f1 : Addr} {v : Value} {Q : Value → Shared → Prop} (P : KFr F h a md f0 f1) (k : KO h a x v) (hh : handedIn v = true) (hq : Q v ⟨h, g, d, t + 1, os⟩) : wpAny (model prog w) A (getAttr (.ref x) (Str.ofString "obj") true) Q E ⟨h, g, d, t, os⟩ := by
  obtain ⟨dx, I⟩ := k.inst
  exact get_bind (s := ⟨h, g, d, t, os⟩) P.inn I (plainGet_of P.pg).1 (findObj_data P.ic P.ob P.gg P.tt) (plainGet_of P.pg).2 (wpAny_call (slot_get (s := ⟨h, g, d, t + 1, os⟩) P.inn I P.si rfl (handed_on hh hq)))
theorem KFr.kp {F : Frag} {h' : Heap} {a md f0 f1 : Addr} (kp : ∀ b o, h.get? b = some o → h'.get? b = some o) (P : KFr F h a md f0 f1) : KFr F h' a md f0 f1 := ⟨P.inn.keeps kp, P.ini, P.t0, P.less, P.fn1, P.mak, P.sa, P.po, P.tk, P.tm, P.si, P.pg, P.ic, P.ob, P.gg, P.tt⟩
theorem w_klt {fv : Addr} {ov : Obj} {fdv : FuncData} {u u' : Value} {a ns md f0 f1 c x y : Addr} {fd0 fd1 : FuncData} {es : Array DictEntry} {i : Int} {Q : Value → Shared → Prop} (KX : Frag.In (KT w.params) h) (T : Tb h) (K : KC w.params h (.ref fv) a ns md f0 f1 c fd0 fd1 es) (hd : A.depth < 900) (hv : h.get? fv = some ov) (hvd : ov.data = .func fdv)
   (hx : KO h a x u) (hy : KO h a y u') (h1 : handedIn u = true) (h2 : handedIn u' = true)
   (hcmp : ∀ h' t B E Q, Evo h h' → Tb h' → B.depth = A.depth + 1 → B.units ≤ A.units + 20 → (∀ h'' tk tk', Evo h h'' → Tb h'' → Q (.int i tk) ⟨h'', g, d, tk', os⟩) → wpAny (model prog w) B (call (.ref fv) [u, u']) Q E ⟨h', g, d, t, os⟩)
   (hq : ∀ h' tk, Evo h h' → Tb h' → Q (.bool (decide (i < 0))) ⟨h', g, d, tk, os⟩) :
   wpAny (model prog w) A (call (.ref f1) [.ref x, .ref y]) Q E ⟨h, g, d, t, os⟩ := by
  have hR : recursionLimit = 1000 := rfl
  obtain ⟨F, PP⟩ := K.kfr
  obtain ⟨p1, p2, p3, p4, p5, p6, p7, p8, p9, p10, eb⟩ := m3_body w.params
  refine wpAny_call (codeD KX K.o1 K.d1 (by lia) (bind2 K.d1 (b_lt w.params _ _)) (by kernel_rfl) (by kernel_rfl) (by kernel_rfl) (by kernel_rfl) (by kernel_rfl) fun h₁ L N k2 hL hsL t' env I => ?_)
  rw [eb]
  have hsz : h.objs.size ≤ h₁.objs.size := Nat.le_of_lt (Nat.lt_of_le_of_lt hsL N.lt)
  refine wpAny_execs_cons (wpAny_Return_some ?_)
  refine wpAny_Compare1 ?_ (by with_unfolding_all rfl)
  refine wpAny_Call_NameR ?_
  have ce : h₁.IsCell c (some (.ref fv)) := let ⟨_, o, e1, e2⟩ := K.ce; ⟨o, k2 _ _ e1, e2⟩
  refine dFree I (c := c) (by kernel_rfl) rfl ce (by kernel_rfl) (by kernel_rfl) ?_
  have s1 : starEach [Expr.Attribute (.Name (Str.ofString "self") p2) (Str.ofString "obj") p3, .Attribute (.Name (Str.ofString "other") p4) (Str.ofString "obj") p5] env = [(false, eval (.Attribute (.Name (Str.ofString "self") p2) (Str.ofString "obj") p3) env), (false, eval (.Attribute (.Name (Str.ofString "other") p4) (Str.ofString "obj") p5) env)] := rfl
  rw [s1]
  repeat (first | (with_reducible refine PySem.Calls.wpAny_keep ?_) | (with_reducible refine dAttr ?_; first | refine dLoc N I rfl (by kernel_rfl) (by kernel_rfl) (gObj (PP.kp k2) (hx.kp k2) h1 ?_) | refine dLoc N I rfl (by kernel_rfl) (by kernel_rfl) (gObj (PP.kp k2) (hy.kp k2) h2 ?_)) | (with_reducible refine wpAny_load (k2 _ _ hv) ?_; rw [hvd]) | ((with_reducible show wpAny _ _ (call (.ref fv) _ _) _ _ _); (show wpAny _ _ (call (.ref fv) [u, u']) _ _ _); refine hcmp _ _ _ _ _ (.of k2 hsz) (T.nd fun b o e _ _ => k2 b o e) ?_ ?_ fun h3 tk tk' V T => ?_) | wp_step)
  · rfl
  · show A.units + 3 ≤ _; lia
  repeat (first | (with_reducible refine k_int ?_) | (with_reducible refine P.lt_int ?_) | wp_step)
  exact hq _ _ V T
end
end Mine
end

section
-- part S1
open PySem PySem.W PyProof.Rows
set_option maxRecDepth 100000
set_option maxHeartbeats 1000000
namespace Mine
/-! the sort asks its way to the stable sort -/
def Asks (n : Nat) (lt : Nat → Nat → Bool) {α : Type} (R : α → Prop) : KasT α → Prop
  | .ret a => R a
  | .ask i j k => i < n ∧ j < n ∧ Asks n lt R (k (lt i j))
theorem asks_bind {n lt} {α β : Type} {f : α → KasT β} {R : β → Prop} : ∀ {t : KasT α}, Asks n lt (fun a => Asks n lt R (f a)) t → Asks n lt R (t.bind f)
  | .ret _, h => h
  | .ask _ _ _, ⟨a, b, h⟩ => ⟨a, b, asks_bind h⟩
theorem asks_mono {n lt} {α : Type} {R R' : α → Prop} (hr : ∀ a, R a → R' a) : ∀ {t : KasT α}, Asks n lt R t → Asks n lt R' t
  | .ret _, h => hr _ h
  | .ask _ _ _, ⟨a, b, h⟩ => ⟨a, b, asks_mono hr h⟩
theorem asks_wp {n lt} {α : Type} {R : α → Prop} {cmp : Nat → Nat → (Bool → Shared → Prop) → Shared → Prop} {I : Shared → Prop} {Q : α → Shared → Prop}
    (hc : ∀ i j C s, i < n → j < n → I s → (∀ s', I s' → C (lt i j) s') → cmp i j C s) (hq : ∀ a s, R a → I s → Q a s) : ∀ (t : KasT α) (s : Shared), Asks n lt R t → I s → t.kasWp cmp Q s
  | .ret _, s, h, hi => hq _ s h hi
  | .ask i j k, s, ⟨a, b, h⟩, hi => hc i j _ s a b hi fun s' hi' => asks_wp hc hq _ s' h hi'
abbrev gt (p : Array Nat) (k : Nat) : Nat := p.getD k 0
theorem gt_of {p q : Array Nat} {k j : Nat} (e : p[k]? = q[j]?) : gt p k = gt q j := by
  simp only [gt, Array.getD_eq_getD_getElem?, e]
theorem gt_rev {p : Array Nat} {i j : Nat} (hj : j ≤ p.size) (k : Nat) : gt (kas_rev p i j) k = if i ≤ k ∧ k < j then gt p (i + j - 1 - k) else gt p k := by
  have e := getElem?_mirror_all (i := i) hj k
  split at e
  · rename_i c; rw [if_pos c]; exact gt_of e
  · rename_i c; rw [if_neg c]; exact gt_of e
theorem gt_bub {p : Array Nat} {s d : Nat} (hs : s < p.size) (hd : d ≤ s) (k : Nat) : gt (bubble p s d) k = if k = s - d then gt p s else if s - d < k ∧ k ≤ s then gt p (k - 1) else gt p k := by
  have e := getElem?_bubble hs d hd k
  split at e
  · rename_i c; rw [if_pos c]; exact gt_of e
  · rename_i c; rw [if_neg c]
    split at e
    · rename_i c; rw [if_pos c]; exact gt_of e
    · rename_i c; rw [if_neg c]; exact gt_of e
structure Pm (n : Nat) (p : Array Nat) : Prop where
  perm : p.Perm (List.toArray (List.range n))
theorem Pm.size {n p} (x : Pm n p) : p.size = n := by have := x.perm.size_eq; simpa using this
theorem Pm.lt {n p} (x : Pm n p) (hn : 0 < n) (k : Nat) : gt p k < n := by
  by_cases h : k < p.size
  · have : p[k] ∈ (List.toArray (List.range n)) := x.perm.mem_iff.mp (Array.getElem_mem h)
    simp only [gt, Array.getD, h, dif_pos]
    simpa using this
  · simp only [gt, Array.getD, h, dif_neg, not_false_eq_true]; exact hn
theorem Pm.rev {n p} (x : Pm n p) (i j : Nat) : Pm n (kas_rev p i j) := ⟨(mirror_perm _ _ _ _).trans x.perm⟩
theorem Pm.bub {n p} (x : Pm n p) (i j : Nat) : Pm n (bubble p i j) := ⟨(bubble_perm _ _ _).trans x.perm⟩
variable {lt : Nat → Nat → Bool}
theorem rel_trans (h : SW lt) {i j k : Nat} (a : Rel lt i j) (b : Rel lt j k) : Rel lt i k := by
  have ta : ∀ {i j k}, lt i j = true → lt k j = false → lt i k = true := fun {i j k} x y => by
    cases e : lt i k with
    | true => rfl
    | false => have := h.ntrans _ _ _ e y; rw [x] at this; cases this
  have tb : ∀ {i j k}, lt j i = false → lt j k = true → lt i k = true := fun {i j k} x y => by
    cases e : lt i k with
    | true => rfl
    | false => have := h.ntrans _ _ _ x e; rw [y] at this; cases this
  rcases a with a | ⟨a, a'⟩
  · rcases b with b | ⟨b, b'⟩
    · exact .inl (ta a (h.asymm _ _ b))
    · exact .inl (ta a b)
  · rcases b with b | ⟨b, b'⟩
    · exact .inl (tb a b)
    · exact .inr ⟨h.ntrans _ _ _ b a, by lia⟩
/-- the first k stand in order, what is ahead is untouched -/
structure Up (lt : Nat → Nat → Bool) (n : Nat) (p : Array Nat) (k : Nat) : Prop where
  pm : Pm n p
  le : k ≤ n
  up : ∀ i j, i < j → j < k → Rel lt (gt p i) (gt p j)
  rest : ∀ i, k ≤ i → i < n → gt p i = i
  low : ∀ i, i < k → gt p i < k
theorem Up.ss {n p} (x : Up lt n p n) : SS lt n p.toList := by
  refine ⟨?_, ?_⟩
  · have := Array.perm_iff_toList_perm.mp x.pm.perm
    simpa using this
  · rw [List.pairwise_iff_getElem]
    intro i j hi hj hij
    have h1 : i < p.size := by simpa using hi
    have h2 : j < p.size := by simpa using hj
    have := x.up i j hij (by rw [← x.pm.size]; exact h2)
    simpa [gt, Array.getD, h1, h2] using this
theorem Up.one {n} (hn : 1 ≤ n) : Up lt n (List.toArray (List.range n)) 1 := by
  have e : ∀ i, i < n → gt (List.toArray (List.range n)) i = i := fun i hi => by simp [gt, Array.getD, hi]
  refine ⟨⟨Array.Perm.refl _⟩, hn, fun i j h1 h2 => by lia, fun i _ h => e i h, fun i hi => by rw [e i (by lia)]; exact hi⟩
theorem Up.step (h : SW lt) {n p k} (x : Up lt n p k) (hk : k < n) (h1 : 1 ≤ k) (hl : lt (gt p k) (gt p (k - 1)) = false) : Up lt n p (k + 1) := by
  have ek : gt p k = k := x.rest k (Nat.le_refl _) hk
  have last : Rel lt (gt p (k - 1)) (gt p k) := .inr ⟨hl, by rw [ek]; exact x.low _ (by lia)⟩
  refine ⟨x.pm, hk, fun i j hij hj => ?_, fun i h1 h2 => x.rest i (by lia) h2, fun i hi => ?_⟩
  · by_cases hjk : j = k
    · subst hjk
      by_cases hi : i = j - 1
      · subst hi; exact last
      · exact rel_trans h (x.up i (j - 1) (by lia) (by lia)) last
    · exact x.up i j hij (by lia)
  · by_cases hik : i = k
    · subst hik; rw [ek]; lia
    · have := x.low i (by lia); lia
theorem asks_asc (h : SW lt) {n p} : ∀ (f k : Nat), Up lt n p k → 1 ≤ k → k + f ≤ n → Asks n lt (fun r => Up lt n p r ∧ k ≤ r ∧ (r = k + f ∨ lt (gt p r) (gt p (r - 1)) = true)) (kas_asc p f k)
  | 0, k, x, _, _ => ⟨x, Nat.le_refl _, .inl rfl⟩
  | f + 1, k, x, h1, hz => by
    refine ⟨x.pm.lt (by lia) _, x.pm.lt (by lia) _, ?_⟩
    cases e : lt (p.getD k 0) (p.getD (k - 1) 0) with
    | true => exact ⟨x, Nat.le_refl _, .inr e⟩
    | false => exact asks_mono (fun r ⟨a, b, c⟩ => ⟨a, by lia, c.imp (fun c => by lia) id⟩) (asks_asc h f (k + 1) (x.step h (by lia) h1 e) (by lia) (by lia))
theorem lt_le (h : SW lt) {i j k} (x : lt i j = true) (y : lt k j = false) : lt i k = true := by
  cases e : lt i k with
  | true => rfl
  | false => have := h.ntrans _ _ _ e y; rw [x] at this; cases this
theorem le_lt (h : SW lt) {i j k} (x : lt j i = false) (y : lt j k = true) : lt i k = true := by
  cases e : lt i k with
  | true => rfl
  | false => have := h.ntrans _ _ _ x e; rw [y] at this; cases this
theorem rel_nlt (h : SW lt) {i j} (x : Rel lt i j) : lt j i = false := x.elim (fun a => h.asymm _ _ a) fun a => a.1
/-- the first k stand in order backwards -/
structure Dw (lt : Nat → Nat → Bool) (n : Nat) (p : Array Nat) (k : Nat) : Prop where
  pm : Pm n p
  le : k ≤ n
  dn : ∀ i j, i < j → j < k → Rel lt (gt p j) (gt p i)
  rest : ∀ i, k ≤ i → i < n → gt p i = i
  low : ∀ i, i < k → gt p i < k
/-- the first u stand in order backwards, then alike ones up to k, forwards -/
structure Dn (lt : Nat → Nat → Bool) (n : Nat) (p : Array Nat) (u k : Nat) : Prop where
  pm : Pm n p
  le : k ≤ n
  uk : u < k
  dn : ∀ i j, i < j → j < u → Rel lt (gt p j) (gt p i)
  md : ∀ i j, i < u → u ≤ j → j < k → lt (gt p j) (gt p i) = true
  al : ∀ i j, u ≤ i → i < j → j < k → lt (gt p i) (gt p j) = false ∧ lt (gt p j) (gt p i) = false ∧ gt p i < gt p j
  rest : ∀ i, k ≤ i → i < n → gt p i = i
  low : ∀ i, i < k → gt p i < k
theorem Dw.up {n p k} (x : Dw lt n p k) : Up lt n (kas_rev p 0 k) k := by
  have e := gt_rev (p := p) (i := 0) (j := k) (by rw [x.pm.size]; exact x.le)
  refine ⟨x.pm.rev _ _, x.le, fun i j hij hj => ?_, fun i h1 h2 => ?_, fun i hi => ?_⟩
  · rw [e, e, if_pos (by lia), if_pos (by lia)]; exact x.dn _ _ (by lia) (by lia)
  · rw [e, if_neg (by lia)]; exact x.rest i h1 h2
  · rw [e, if_pos (by lia)]; exact x.low _ (by lia)
theorem Dn.flip {n p u k} (x : Dn lt n p u k) : Dw lt n (kas_rev p u k) k := by
  have e := gt_rev (p := p) (i := u) (j := k) (by rw [x.pm.size]; exact x.le)
  have uk := x.uk
  refine ⟨x.pm.rev _ _, x.le, fun i j hij hj => ?_, fun i h1 h2 => ?_, fun i hi => ?_⟩
  · by_cases hi : i < u
    · by_cases hju : j < u
      · rw [e, e, if_neg (by lia), if_neg (by lia)]; exact x.dn _ _ hij hju
      · rw [e, e, if_pos (by lia), if_neg (by lia)]; exact .inl (x.md _ _ hi (by lia) (by lia))
    · rw [e, e, if_pos (by lia), if_pos (by lia)]
      have := x.al (u + k - 1 - j) (u + k - 1 - i) (by lia) (by lia) (by lia)
      exact .inr ⟨this.2.1, this.2.2⟩
  · rw [e, if_neg (by lia)]; exact x.rest i h1 h2
  · rw [e]
    split
    · exact x.low _ (by lia)
    · exact x.low _ hi
theorem Dn.one {n p u k} (x : Dn lt n p u k) (hu : u + 1 = k) : Dw lt n p k := by
  refine ⟨x.pm, x.le, fun i j hij hj => ?_, x.rest, x.low⟩
  by_cases h : j < u
  · exact x.dn _ _ hij h
  · exact .inl (x.md _ _ (by lia) (by lia) hj)
theorem Dw.more {n p k} (x : Dw lt n p k) (hk : k < n) (hl : ∀ i, i < k → lt (gt p k) (gt p i) = true) : Dn lt n p k (k + 1) := by
  refine ⟨x.pm, hk, Nat.lt_succ_self _, x.dn, fun i j hi h1 h2 => ?_, fun i j h1 h2 h3 => by lia, fun i h1 h2 => x.rest i (by lia) h2, fun i hi => ?_⟩
  · obtain rfl : j = k := by lia
    exact hl i hi
  · by_cases hik : i = k
    · subst hik; rw [x.rest i (Nat.le_refl _) hk]; lia
    · have := x.low i (by lia); lia
theorem Dn.far (h : SW lt) {n p u k} (x : Dn lt n p u k) (hl : lt (gt p k) (gt p (k - 1)) = true) (i : Nat) (hi : i < k) : lt (gt p k) (gt p i) = true := by
  have uk := x.uk
  by_cases hiu : i < u
  · exact le_lt h (h.asymm _ _ hl) (x.md _ (k - 1) hiu (by lia) (by lia))
  · by_cases e : i = k - 1
    · subst e; exact hl
    · exact lt_le h hl (x.al i (k - 1) (by lia) (by lia) (by lia)).1
theorem Dn.stepA (h : SW lt) {n p u k} (x : Dn lt n p u k) (hk : k < n) (hl : lt (gt p k) (gt p (k - 1)) = true) : Dn lt n (kas_rev p u k) k (k + 1) := by
  have e := gt_rev (p := p) (i := u) (j := k) (by rw [x.pm.size]; exact x.le)
  have uk := x.uk
  refine x.flip.more hk fun i hi => ?_
  rw [e, e, if_neg (by lia)]
  split
  · exact x.far h hl _ (by lia)
  · exact x.far h hl _ hi
theorem Dn.stepB (h : SW lt) {n p u k} (x : Dn lt n p u k) (hu : u + 1 = k) (hk : k < n) (hl : lt (gt p k) (gt p (k - 1)) = true) : Dn lt n p k (k + 1) :=
  (x.one hu).more hk fun i hi => x.far h hl i hi
theorem Dn.stepC (h : SW lt) {n p u k} (x : Dn lt n p u k) (hk : k < n) (h1 : lt (gt p k) (gt p (k - 1)) = false) (h2 : lt (gt p (k - 1)) (gt p k) = false) : Dn lt n p u (k + 1) := by
  have uk := x.uk
  have ek : gt p k = k := x.rest k (Nat.le_refl _) hk
  refine ⟨x.pm, hk, by lia, x.dn, fun i j hi q1 q2 => ?_, fun i j q1 q2 q3 => ?_, fun i q1 q2 => x.rest i (by lia) q2, fun i hi => ?_⟩
  · by_cases hj : j = k
    · subst hj; exact le_lt h h2 (x.md i (j - 1) hi (by lia) (by lia))
    · exact x.md i j hi q1 (by lia)
  · by_cases hj : j = k
    · subst hj
      have l := x.low i q2
      refine ⟨?_, ?_, by lia⟩
      · by_cases hi : i = j - 1
        · subst hi; exact h2
        · exact h.ntrans _ _ _ (x.al i (j - 1) q1 (by lia) (by lia)).1 h2
      · by_cases hi : i = j - 1
        · subst hi; exact h1
        · exact h.ntrans _ _ _ h1 (x.al i (j - 1) q1 (by lia) (by lia)).2.1
    · exact x.al i j q1 q2 (by lia)
  · by_cases hik : i = k
    · subst hik; lia
    · have := x.low i (by lia); lia
theorem asks_desc (h : SW lt) {n} : ∀ (f : Nat) (p : Array Nat) (u k : Nat), Dn lt n p u k → k + f ≤ n → Asks n lt (fun r => r.2.1 ≤ n ∧ ∃ u', Dn lt n r.1 u' r.2.1 ∧ r.2.2 = r.2.1 - (u' + 1)) (kas_desc f p k (k - (u + 1)))
  | 0, p, u, k, x, _ => ⟨x.le, u, x, rfl⟩
  | f + 1, p, u, k, x, hz => by
    have uk := x.uk
    refine ⟨x.pm.lt (by lia) _, x.pm.lt (by lia) _, ?_⟩
    cases e : lt (p.getD k 0) (p.getD (k - 1) 0) with
    | true =>
      show Asks _ _ _ (if true = true then _ else _)
      rw [if_pos rfl]
      split
      · rw [show k - (k - (u + 1) + 1) = u by lia]
        have := asks_desc h f _ k (k + 1) (x.stepA h (by lia) e) (by lia)
        rwa [show k + 1 - (k + 1) = 0 by lia] at this
      · have := asks_desc h f _ k (k + 1) (x.stepB h (by lia) (by lia) e) (by lia)
        rwa [show k + 1 - (k + 1) = 0 by lia] at this
    | false =>
      show Asks _ _ _ (if false = true then _ else _)
      rw [if_neg (by decide)]
      refine ⟨x.pm.lt (by lia) _, x.pm.lt (by lia) _, ?_⟩
      cases e2 : lt (p.getD (k - 1) 0) (p.getD k 0) with
      | true => exact ⟨x.le, u, x, rfl⟩
      | false =>
        show Asks _ _ _ (if false = true then _ else _)
        rw [if_neg (by decide)]
        have := asks_desc h f p u (k + 1) (x.stepC h (by lia) e e2) (by lia)
        rwa [show k + 1 - (u + 1) = k - (u + 1) + 1 by lia] at this
theorem asks_tail (h : SW lt) {n p k} (x : Dw lt n p k) (h1 : 1 ≤ k) : Asks n lt (fun r => Up lt n r.2 r.1 ∧ 1 ≤ r.1) (kas_tail3 k n p) := by
  refine asks_bind (asks_mono (fun r hr => ?_) (asks_asc h (n - k) k x.up h1 (by have := x.le; lia)))
  exact ⟨hr.1, by lia⟩
theorem asks_part (h : SW lt) {n p k} (x : Dn lt n p k (k + 1)) : Asks n lt (fun r => Up lt n r.2 r.1 ∧ 1 ≤ r.1) (kas_descPart k n p) := by
  have d := asks_desc h (n - (k + 1)) p k (k + 1) x (by have := x.le; lia)
  rw [show k + 1 - (k + 1) = 0 by lia] at d
  refine asks_bind (asks_mono (fun r hr => ?_) d)
  obtain ⟨p', k', q⟩ := r
  obtain ⟨_, u, y, hq⟩ := hr
  dsimp only at hq
  subst hq
  have uk := y.uk
  dsimp only at y uk ⊢
  split
  · rw [show k' - (k' - (u + 1) + 1) = u by lia]
    exact asks_tail h y.flip (by lia)
  · exact asks_tail h (y.one (by lia)) (by lia)
theorem asks_count (h : SW lt) {n} (hn : 1 ≤ n) : Asks n lt (fun r => Up lt n r.2 r.1 ∧ 1 ≤ r.1) (kas_count n (List.toArray (List.range n))) := by
  refine asks_bind (asks_mono (fun k hk => ?_) (asks_asc h (n - 1) 1 (Up.one hn) (Nat.le_refl _) (by lia)))
  obtain ⟨x, h1, h2⟩ := hk
  split
  · rename_i e; exact ⟨x, h1⟩
  · rename_i e
    have hkn : k < n := by
      have := x.le
      have : k ≠ n := fun q => e (by rw [q]; simp)
      lia
    have hl : lt (gt (List.toArray (List.range n)) k) (gt (List.toArray (List.range n)) (k - 1)) = true := h2.elim (fun q => by lia) id
    split
    · refine ⟨x.pm.lt hn _, x.pm.lt hn _, ?_⟩
      cases e2 : lt ((List.toArray (List.range n)).getD 0 0) ((List.toArray (List.range n)).getD (k - 1) 0) with
      | true => exact ⟨x, h1⟩
      | false =>
        show Asks _ _ _ (if false = true then _ else _)
        rw [if_neg (by decide)]
        have y : Dn lt n (List.toArray (List.range n)) 0 k := by
          refine ⟨x.pm, x.le, by lia, fun i j _ hj => by lia, fun i j hi => by lia, fun i j _ hij hj => ?_, x.rest, x.low⟩
          have r := x.up i j hij hj
          have r1 := rel_nlt h r
          have no : lt (gt (List.toArray (List.range n)) i) (gt (List.toArray (List.range n)) j) = false := by
            cases q : lt (gt (List.toArray (List.range n)) i) (gt (List.toArray (List.range n)) j) with
            | false => rfl
            | true =>
              exfalso
              have a1 : lt (gt (List.toArray (List.range n)) 0) (gt (List.toArray (List.range n)) j) = true := by
                by_cases h0 : i = 0
                · subst h0; exact q
                · exact le_lt h (rel_nlt h (x.up 0 i (by lia) (by lia))) q
              have a2 : lt (gt (List.toArray (List.range n)) 0) (gt (List.toArray (List.range n)) (k - 1)) = true := by
                by_cases h0 : j = k - 1
                · subst h0; exact a1
                · exact lt_le h a1 (rel_nlt h (x.up j (k - 1) (by lia) (by lia)))
              have e2' : lt (gt (List.toArray (List.range n)) 0) (gt (List.toArray (List.range n)) (k - 1)) = false := e2
              rw [a2] at e2'; cases e2'
          exact ⟨no, r1, r.elim (fun a => by rw [no] at a; cases a) fun a => a.2⟩
        exact asks_part h (y.stepA h hkn hl)
    · have k1 : k = 1 := by lia
      subst k1
      have y : Dn lt n (List.toArray (List.range n)) 0 1 := ⟨x.pm, x.le, by lia, fun i j _ hj => by lia, fun i j hi => by lia, fun i j _ hij hj => by lia, x.rest, x.low⟩
      exact asks_part h (y.stepB h rfl hkn hl)
theorem asks_place (h : SW lt) {n p k} (x : Up lt n p k) (hk : k < n) : ∀ (f l r : Nat), l ≤ r → r ≤ k → r - l ≤ f → (∀ i, i < l → lt (gt p k) (gt p i) = false) → (∀ i, r ≤ i → i < k → lt (gt p k) (gt p i) = true) →
    Asks n lt (fun l => l ≤ k ∧ (∀ i, i < l → lt (gt p k) (gt p i) = false) ∧ ∀ i, l ≤ i → i < k → lt (gt p k) (gt p i) = true) (kas_place p k f l r)
  | 0, l, r, h1, h2, h3, a, b => by
    obtain rfl : l = r := by lia
    exact ⟨h2, a, b⟩
  | f + 1, l, r, h1, h2, h3, a, b => by
    unfold kas_place
    split
    · obtain rfl : l = r := by lia
      exact ⟨h2, a, b⟩
    · refine ⟨x.pm.lt (by lia) _, x.pm.lt (by lia) _, ?_⟩
      cases e : lt (p.getD k 0) (p.getD ((l + r) / 2) 0) with
      | true =>
        show Asks _ _ _ (if true = true then _ else _)
        rw [if_pos rfl]
        refine asks_place h x hk f l _ (by lia) (by lia) (by lia) a fun i q1 q2 => ?_
        by_cases hi : i = (l + r) / 2
        · subst hi; exact e
        · exact lt_le h e (rel_nlt h (x.up _ i (by lia) q2))
      | false =>
        show Asks _ _ _ (if false = true then _ else _)
        rw [if_neg (by decide)]
        refine asks_place h x hk f _ r (by lia) h2 (by lia) (fun i q => ?_) b
        by_cases hi : i = (l + r) / 2
        · subst hi; exact e
        · exact h.ntrans _ _ _ e (rel_nlt h (x.up i _ (by lia) (by lia)))
theorem Up.ins (_h : SW lt) {n p k l} (x : Up lt n p k) (hk : k < n) (hl : l ≤ k) (a : ∀ i, i < l → lt (gt p k) (gt p i) = false) (b : ∀ i, l ≤ i → i < k → lt (gt p k) (gt p i) = true) : Up lt n (bubble p k (k - l)) (k + 1) := by
  have e := gt_bub (p := p) (s := k) (d := k - l) (by rw [x.pm.size]; exact hk) (by lia)
  rw [show k - (k - l) = l by lia] at e
  have ek : gt p k = k := x.rest k (Nat.le_refl _) hk
  refine ⟨x.pm.bub _ _, hk, fun i j hij hj => ?_, fun i h1 h2 => ?_, fun i hi => ?_⟩
  · rw [e i, e j]
    by_cases i1 : i = l
    · rw [if_pos i1, if_neg (by lia), if_pos (by lia)]
      exact .inl (b _ (by lia) (by lia))
    · rw [if_neg i1]
      by_cases j1 : j = l
      · rw [if_pos j1, if_neg (by lia)]
        exact .inr ⟨a _ (by lia), by rw [ek]; exact x.low _ (by lia)⟩
      · rw [if_neg j1]
        by_cases i2 : l < i ∧ i ≤ k
        · rw [if_pos i2, if_pos (by lia)]; exact x.up _ _ (by lia) (by lia)
        · rw [if_neg i2]
          by_cases j2 : l < j ∧ j ≤ k
          · rw [if_pos j2]; exact x.up _ _ (by lia) (by lia)
          · rw [if_neg j2]; exact x.up _ _ (by lia) (by lia)
  · rw [e, if_neg (by lia), if_neg (by lia)]; exact x.rest i (by lia) h2
  · rw [e]
    split
    · lia
    · split
      · have := x.low (i - 1) (by lia); lia
      · have := x.low i (by lia); lia
theorem asks_bin (h : SW lt) {n} : ∀ (f : Nat) (p : Array Nat) (k : Nat), Up lt n p k → k + f = n → Asks n lt (fun r => Up lt n r n) (kas_bin f p k)
  | 0, p, k, x, e => by
    obtain rfl : k = n := by lia
    exact x
  | f + 1, p, k, x, e => by
    refine asks_bind (asks_mono (fun l hl => ?_) (asks_place h x (by lia) k 0 k (by lia) (Nat.le_refl _) (by lia) (fun i hi => by lia) fun i h1 h2 => by lia))
    exact asks_bin h f _ (k + 1) (x.ins h (by lia) hl.1 hl.2.1 hl.2.2) (by lia)
theorem asks_sort (h : SW lt) {n} (hn : 1 ≤ n) : Asks n lt (fun p => p.toList = srt lt n) (kas_sort n) := by
  refine asks_bind (asks_mono (fun r hr => ?_) (asks_count h hn))
  obtain ⟨k, p⟩ := r
  obtain ⟨x, h1⟩ := hr
  dsimp only at x h1 ⊢
  have le := x.le
  split
  · rw [show max k 1 = k by lia]
    exact asks_mono (fun p' y => SS_unique h y.ss (srt_SS h n)) (asks_bin h (n - k) p k x (by lia))
  · obtain rfl : k = n := by lia
    exact SS_unique h x.ss (srt_SS h k)
end Mine
end

section
-- part S2
open PySem PySem.W PyProof.Rows PySem.Calls
set_option maxRecDepth 100000
set_option maxHeartbeats 1000000
namespace Mine
theorem tb_upd {h : Heap} {x : Addr} {vs : Array Value} {n : Nat} {f : Obj → Obj} (T : Tb h) (hx : h.get? x = some (seqObj "list" vs n)) : Tb (h.update x f) :=
  T.nd fun b o e _ hc => by
    refine (Heap.get?_update_ne _ _ _ _ ?_).trans e
    rintro rfl; rw [hx] at e; cases e; rcases hc with q | q
    · injection q with q; exact absurd q (by decide)
    · cases q
theorem evo_upd {h₀ h : Heap} {x : Addr} {f : Obj → Obj} (V : Evo h₀ h) (hx : h₀.get? x = none) : Evo h₀ (h.update x f) :=
  ⟨fun b o e ht => (Heap.get?_update_ne _ _ _ _ (by rintro rfl; rw [hx] at e; cases e)).trans (V.1 b o e ht), by rw [Heap.size_update]; exact V.2⟩
theorem evo_push {h₀ h : Heap} {o : Obj} (V : Evo h₀ h) : Evo h₀ (h.push o) := V.trans (.of (fun _ _ e => Heap.get?_push_of_some _ e) (by simp [Heap.size_push]))
theorem tb_push {h : Heap} {o : Obj} (T : Tb h) : Tb (h.push o) := T.nd fun _ _ e _ _ => Heap.get?_push_of_some _ e
def Kz (Z : Addr → Prop) (h h' : Heap) : Prop := ∀ b o, Z b → h.get? b = some o → ¬ isTab b → h'.get? b = some o
theorem Kz.evo {Z h h'} (V : Evo h h') : Kz Z h h' := fun b o _ e t => V.1 b o e t
theorem Kz.upd {Z : Addr → Prop} {h : Heap} {x : Addr} {f : Obj → Obj} (hz : ¬ Z x) : Kz Z h (h.update x f) := fun b o z e _ => (Heap.get?_update_ne _ _ _ _ (by rintro rfl; exact hz z)).trans e
def Nt (a kS : Addr) (b : Addr) : Prop := b ≠ a ∧ b ≠ kS
section
variable {prog : Program} {w : World} {A : Around} {E : Value → Shared → Prop} {h₀ h : Heap} {g : Array GenState} {d : Drawn} {t : Nat} {os : OsState}
variable {α : Type} {KO : (Addr → Prop) → Heap → Value → α → Prop} {ξ : Nat → α} {lt : Nat → Nat → Bool} {κ : SortKind} {vs : List Value} {a kS : Addr} {e1 : Nat} {q : Addr}
/-- what the sort holds between its steps -/
structure Ho (KO : (Addr → Prop) → Heap → Value → α → Prop) (ξ : Nat → α) (h₀ : Heap) (a kS : Addr) (e1 : Nat) (keys : Array Value) (e : Nat) (h : Heap) : Prop where
  ev : Evo h₀ h
  tb : Tb h
  ks : h.get? kS = some (seqObj "list" keys e)
  at_ : h.get? a = some (seqObj "list" #[] e1)
  ko : ∀ i k, keys[i]? = some k → KO (Nt a kS) h k (ξ i)
structure Sc (prog : Program) (w : World) (B : Around) (KO : (Addr → Prop) → Heap → Value → α → Prop) (ξ : Nat → α) (lt : Nat → Nat → Bool) (κ : SortKind) (vs : List Value) (q : Addr) (h₀ : Heap) (g : Array GenState) (d : Drawn) (os : OsState) : Prop where
  stab : ∀ {Z h h' k x}, Kz Z h h' → KO Z h k x → KO Z h' k x
  key : ∀ Z h i v, (∀ b o, h₀.get? b = some o → Z b) → (∀ b, h.objs.size ≤ b → Z b) → Evo h₀ h → Tb h → vs[i]? = some v → ∀ t E Q, (∀ h' tk k, Evo h h' → Tb h' → KO Z h' k (ξ i) → Q k ⟨h', g, d, tk, os⟩) → wpAny (model prog w) B (call (.ref q) [v]) Q E ⟨h, g, d, t, os⟩
  less : ∀ Z h i j k k', (∀ b o, h₀.get? b = some o → Z b) → (∀ b, h.objs.size ≤ b → Z b) → Evo h₀ h → Tb h → KO Z h k (ξ i) → KO Z h k' (ξ j) → ∀ t E Q, (∀ h' tk, Evo h h' → Tb h' → Q (lt i j) ⟨h', g, d, tk, os⟩) → wpAny (model prog w) B (keyLt' κ k k') Q E ⟨h, g, d, t, os⟩
  kind : ∀ Z h (keys : List Value), 2 ≤ keys.length → (∀ i k, keys[i]? = some k → KO Z h k (ξ i)) → ∀ t E Q, Q κ ⟨h, g, d, t, os⟩ → wpAny (model prog w) B (keyKind' keys.toArray) Q E ⟨h, g, d, t, os⟩
  sw : SW lt
theorem s_tail {st : SortSt} {P : PySem.Fin → Shared → Prop} {keys : Array Value} {e : Nat} (H : Ho KO ξ h₀ a kS e1 keys e h) (h64 : vs.length < 64) (hks : keys.size = vs.length) (hka : kS ≠ a) (ha0 : h₀.get? a = none) (hk0 : h₀.get? kS = none)
    (hout : ((arrOf st).map (·.2)).toList = (srt lt vs.length).map fun i => vs.getD i .none) (hl : (srt lt vs.length).length = vs.length) (hf : failedOf st = none)
    (hq : ∀ h' c tk, Evo h₀ h' → Tb h' → IsL h' a ((srt lt vs.length).map fun i => vs.getD i .none).toArray c → P (.done (.ret .none)) ⟨h', g, d, tk, os⟩) :
    wpAny (model prog w) A (ksk_tail a false e1 (.ref kS) st) P E ⟨h, g, d, t, os⟩ := by
  have hsz : ((arrOf st).map (·.2)).size = vs.length := by rw [← Array.length_toList, hout, List.length_map, hl]
  have s1 := Heap.SameBut.update h kS (Obj.mapSeq fun _ => (#[] : Array Value))
  have na1 : (h.update kS (Obj.mapSeq fun _ => (#[] : Array Value))).get? a = some (seqObj "list" #[] e1) := (s1.2 a hka.symm).trans H.at_
  obtain ⟨c2, hc2⟩ : ∃ c2, ((h.update kS (Obj.mapSeq fun _ => (#[] : Array Value))).update a (Obj.mapSeq fun _ => (arrOf st).map (·.2))).get? a = some (seqObj "list" ((arrOf st).map (·.2)) c2) :=
    ⟨_, get?_update_seq na1 fun _ => (arrOf st).map (·.2)⟩
  unfold ksk_tail
  try dsimp only
  refine wpAny_bind (listUpdate_at (s := ⟨h, g, d, t, os⟩) H.ks rfl ?_ (by rw [hks, sizeLine_eq]; lia) (Nat.zero_le _))
  refine wpAny_bind (wpAny_letGo ?_)
  refine wpAny_bind (seqEpoch_at na1 rfl ?_)
  refine wpAny_bind (listUpdate_at na1 rfl ?_ (Nat.zero_le _) (Nat.le_trans (Nat.le_of_eq hsz) (by rw [sizeLine_eq]; lia)))
  rw [hf]
  simp only [bne_self_eq_false, Bool.false_eq_true, if_false]
  refine wpAny_pure (hq _ c2 _ (evo_upd (evo_upd H.ev hk0) ha0) (tb_upd (tb_upd H.tb H.ks) na1) ?_)
  have e : ((srt lt vs.length).map fun i => vs.getD i .none).toArray = (arrOf st).map (·.2) := Array.toList_inj.mp (by rw [hout])
  rw [e]
  exact hc2
theorem s_end {P : PySem.Fin → Shared → Prop} {keys : Array Value} {e : Nat} (S : Sc prog w A KO ξ lt κ vs q h₀ g d os) (H : Ho KO ξ h₀ a kS e1 keys e h) (h1 : 1 ≤ vs.length) (h64 : vs.length < 64) (hks : keys.size = vs.length) (hka : kS ≠ a) (ha0 : h₀.get? a = none) (hk0 : h₀.get? kS = none)
    (hq : ∀ h' c tk, Evo h₀ h' → Tb h' → IsL h' a ((srt lt vs.length).map fun i => vs.getD i .none).toArray c → P (.done (.ret .none)) ⟨h', g, d, tk, os⟩) :
    wpAny (model prog w) A (ksk_end a false vs.toArray e1 (.ref kS) keys) P E ⟨h, g, d, t, os⟩ := by
  have hzs : (keys.zip vs.toArray).size = vs.length := by rw [Array.size_zip, hks, List.size_toArray, Nat.min_self]
  have hsl : (srt lt vs.length).length = vs.length := by have := (srt_SS S.sw vs.length).1.length_eq; simpa using this
  unfold ksk_end
  simp only [Bool.false_eq_true, if_false]
  by_cases h2 : vs.toArray.size < 2
  · rw [if_pos h2, if_pos h2]
    refine wpAny_bind (wpAny_pure ?_)
    rw [StateT.run_pure]
    refine wpAny_bind (wpAny_pure ?_)
    dsimp only
    refine s_tail H h64 hks hka ha0 hk0 ?_ hsl rfl hq
    rw [List.size_toArray] at h2
    obtain ⟨v, rfl⟩ := List.length_eq_one_iff.mp (show vs.length = 1 by lia)
    obtain ⟨k, hk⟩ : ∃ k, keys = #[k] := by
      have : keys.toList.length = 1 := by rw [Array.length_toList, hks]; rfl
      obtain ⟨k, hk⟩ := List.length_eq_one_iff.mp this
      exact ⟨k, Array.toList_inj.mp (by rw [hk])⟩
    subst hk
    have e1 : srt lt [v].length = [0] := rfl
    rw [e1]
    show ((#[k].zip #[v]).map (·.2)).toList = [v]
    simp
  · rw [if_neg h2, if_neg h2]
    rw [List.size_toArray] at h2
    have hkl : keys = keys.toList.toArray := by simp
    rw [hkl]
    refine wpAny_bind (S.kind (Nt a kS) h keys.toList (by rw [Array.length_toList, hks]; lia) (fun i k hi => H.ko i k (by rw [← Array.getElem?_toList]; exact hi)) t E _ ?_)
    rw [← hkl]
    have hin : ∀ b o, h₀.get? b = some o → Nt a kS b := fun b o e => ⟨(by rintro rfl; rw [ha0] at e; cases e), (by rintro rfl; rw [hk0] at e; cases e)⟩
    have est : SortSt.mk' κ (keys.zip vs.toArray) #[] 7 none = kas_st κ (keys.zip vs.toArray) (List.toArray (List.range vs.length)) := by
      have e := kas_range (keys.zip vs.toArray)
      rw [hzs] at e
      show SortSt.mk' κ (keys.zip vs.toArray) #[] 7 none = SortSt.mk' κ ((List.toArray (List.range vs.length)).map (kas_item (keys.zip vs.toArray))) #[] 7 none
      rw [e]
    have item : ∀ i (hi : i < vs.length), kas_item (keys.zip vs.toArray) i = (keys[i]'(by lia), vs[i]) := fun i hi => by
      unfold kas_item
      simp [Array.getD, hi, hks]
    have ask : (kas_sort vs.length).kasWp (kas_cmp prog w A κ (keys.zip vs.toArray)) (fun p s => p.toList = srt lt vs.length ∧ ∃ h' tk, s = ⟨h', g, d, tk, os⟩ ∧ Ho KO ξ h₀ a kS e1 keys e h') ⟨h, g, d, t, os⟩ := by
      refine asks_wp (I := fun s => ∃ h' tk, s = ⟨h', g, d, tk, os⟩ ∧ Ho KO ξ h₀ a kS e1 keys e h') (fun i j C s hi hj hI hC => ?_) (fun p s r hI => ⟨r, hI⟩) _ _ (asks_sort S.sw h1) ⟨_, _, rfl, H⟩
      obtain ⟨h', tk, rfl, H'⟩ := hI
      unfold kas_cmp
      rw [item i hi, item j hj]
      refine S.less (Nt a kS) h' i j _ _ hin (fun b hb => ⟨?_, ?_⟩) H'.ev H'.tb (H'.ko i _ (by simp [hks, hi])) (H'.ko j _ (by simp [hks, hj])) tk _ _ fun h'' tk2 V T => hC _ ⟨h'', tk2, rfl, H'.ev.trans V, T, ?_, ?_, fun i k hk => S.stab (.evo V) (H'.ko i k hk)⟩
      · exact (Nat.ne_of_lt (Nat.lt_of_lt_of_le (Heap.lt_size H'.at_) hb)).symm
      · exact (Nat.ne_of_lt (Nat.lt_of_lt_of_le (Heap.lt_size H'.ks) hb)).symm
      · exact V.1 _ _ H'.ks fun ht => by obtain ⟨vs, q⟩ := H'.tb.none ht; rw [H'.ks] at q; cases q
      · exact V.1 _ _ H'.at_ fun ht => by obtain ⟨vs, q⟩ := H'.tb.none ht; rw [H'.at_] at q; cases q
    rw [est]
    refine wpAny_bind (wpAny_mono (kas_runs (E := E) (Q := fun _ st' s' => ∃ p : Array Nat, arrOf st' = p.map (kas_item (keys.zip vs.toArray)) ∧ failedOf st' = none ∧ p.toList = srt lt vs.length ∧ ∃ h' tk, s' = ⟨h', g, d, tk, os⟩ ∧ Ho KO ξ h₀ a kS e1 keys e h')
      (by lia) h64 (fun p' st' s' _ a2 a3 a4 => ⟨p', a2, a3, a4⟩) ask) ?_ fun _ _ e => e)
    rintro ⟨⟨⟩, st'⟩ s' ⟨p, har, hf, hp, h', tk, rfl, H'⟩
    dsimp only
    refine s_tail H' h64 hks hka ha0 hk0 ?_ hsl hf hq
    rw [har, Array.map_map, Array.toList_map, hp]
    refine List.map_congr_left fun i hi => ?_
    have hi' : i < vs.length := List.mem_range.mp ((srt_SS S.sw vs.length).1.mem_iff.mp hi)
    show (kas_item (keys.zip vs.toArray) i).2 = _
    rw [item i hi']
    simp [hi']
theorem s_rest {P : PySem.Fin → Shared → Prop} (S : Sc prog w A KO ξ lt κ vs q h₀ g d os) (H : Ho KO ξ h₀ a kS e1 #[] 0 h) (h1 : 1 ≤ vs.length) (h64 : vs.length < 64) (hka : kS ≠ a) (ha0 : h₀.get? a = none) (hk0 : h₀.get? kS = none)
    (hq : ∀ h' c tk, Evo h₀ h' → Tb h' → IsL h' a ((srt lt vs.length).map fun i => vs.getD i .none).toArray c → P (.done (.ret .none)) ⟨h', g, d, tk, os⟩) :
    wpAny (model prog w) A (ksk_rest a (.ref q) false vs.toArray e1 (.ref kS)) P E ⟨h, g, d, t, os⟩ := by
  have hin : ∀ b o, h₀.get? b = some o → Nt a kS b := fun b o e => ⟨(by rintro rfl; rw [ha0] at e; cases e), (by rintro rfl; rw [hk0] at e; cases e)⟩
  unfold ksk_rest
  refine wpAny_bind (wpAny_rule ?_)
  rw [List.forIn_toArray]
  refine wpAny_bind (ksk_fold (fun i s' => ∃ h' tk kA e, s' = ⟨h', g, d, tk, os⟩ ∧ Ho KO ξ h₀ a kS e1 kA e h' ∧ kA.size = i) vs 0 _ ⟨h, t, #[], 0, rfl, H, rfl⟩ ?step ?done)
  case step =>
    rintro j x s' hx ⟨h', tk, kA, e, rfl, H', hk⟩
    simp only [Nat.zero_add] at hk ⊢
    have hj : j < vs.length := (List.getElem?_eq_some_iff.mp hx).1
    refine wpAny_bind (wpAny_attempt (S.key (Nt a kS) h' j x hin (fun b hb => ⟨?_, ?_⟩) H'.ev H'.tb hx tk _ _ fun h2 tk2 k V T K => ?_))
    · exact (Nat.ne_of_lt (Nat.lt_of_lt_of_le (Heap.lt_size H'.at_) hb)).symm
    · exact (Nat.ne_of_lt (Nat.lt_of_lt_of_le (Heap.lt_size H'.ks) hb)).symm
    have nk : h2.get? kS = some (seqObj "list" kA e) := V.1 _ _ H'.ks fun ht => by obtain ⟨vs, q⟩ := H'.tb.none ht; rw [H'.ks] at q; cases q
    have na : h2.get? a = some (seqObj "list" #[] e1) := V.1 _ _ H'.at_ fun ht => by obtain ⟨vs, q⟩ := H'.tb.none ht; rw [H'.at_] at q; cases q
    have s1 := Heap.SameBut.update h2 kS (Obj.mapSeq (·.push k))
    obtain ⟨c2, hc2⟩ : ∃ c2, (h2.update kS (Obj.mapSeq (·.push k))).get? kS = some (seqObj "list" (kA.push k) c2) := ⟨_, get?_update_seq nk (·.push k)⟩
    dsimp only
    refine wpAny_bind (listUpdate_at nk rfl ?_ (by rw [sizeLine_eq]; lia) (Nat.le_trans (Nat.le_of_eq (Array.size_push ..)) (by rw [sizeLine_eq]; lia)))
    refine wpAny_pure ⟨rfl, _, _, kA.push k, c2, rfl, ⟨evo_upd (H'.ev.trans V) hk0, tb_upd T nk, hc2, (s1.2 a hka.symm).trans na, fun i k' hi => ?_⟩, by rw [Array.size_push, hk]⟩
    rw [Array.getElem?_push] at hi
    split at hi
    · rename_i e; cases hi; rw [e, hk]; exact S.stab (.upd (fun z => z.2 rfl)) K
    · exact S.stab (.upd (fun z => z.2 rfl)) (S.stab (.evo V) (H'.ko i k' hi))
  case done =>
    rintro s' ⟨h', tk, kA, e, rfl, H', hk⟩
    refine wpAny_bind (listItems_at H'.ks rfl ?_)
    exact s_end S H' h1 h64 (by lia) hka ha0 hk0 hq
theorem s_sorted {l : Addr} {Q : Value → Shared → Prop} (S : Sc prog w A.in1.in1 KO ξ lt κ vs q h g d os) (T : Tb h) (hl : h.IsList l vs.toArray) (h1 : 1 ≤ vs.length) (h64 : vs.length < 64)
    (hq : ∀ h' c tk r, Evo h h' → Tb h' → h.objs.size ≤ r → IsL h' r ((srt lt vs.length).map fun i => vs.getD i .none).toArray c → Q (.ref r) ⟨h', g, d, tk, os⟩) :
    wpAny (model prog w) A (call (.builtin "sorted") [.ref l] [(Str.ofString "key", .ref q)]) Q E ⟨h, g, d, t, os⟩ := by
  refine call_function_entry_kw kind_sorted plain_sorted entry_sorted (ksk_s1 _ _) ?_
  unfold Builtin.«sorted»
  refine wpAny_bind (m := checkCount "sorted" 1 1 _) (wpAny_pure ?_)
  refine wpAny_bind (collect_list (s := ⟨h, g, d, t, os⟩) hl ?_ (by rw [sizeLine_eq]; lia))
  refine wpAny_bind (wpAny_newList ?_ (by rw [sizeLine_eq]; lia))
  have hsz : ((h.push (seqObj "list" #[] 0)).update h.objs.size (Obj.mapSeq (· ++ vs.toArray))).objs.size = h.objs.size + 1 := by
    rw [Heap.size_update, size_push']
  have hoL : (((h.push (seqObj "list" #[] 0)).update h.objs.size (Obj.mapSeq (· ++ vs.toArray))).push (seqObj "list" vs.toArray 0)).get? (h.objs.size + 1) = some (seqObj "list" vs.toArray 0) := by
    rw [← hsz]; exact Heap.get?_push_size _ rfl
  have hf0 : h.get? h.objs.size = none := Heap.get?_none_of_le (Nat.le_refl _)
  have V1 : Evo h (((h.push (seqObj "list" #[] 0)).update h.objs.size (Obj.mapSeq (· ++ vs.toArray))).push (seqObj "list" vs.toArray 0)) := evo_push (evo_upd (evo_push (.rfl' h)) hf0)
  have T1 : Tb (((h.push (seqObj "list" #[] 0)).update h.objs.size (Obj.mapSeq (· ++ vs.toArray))).push (seqObj "list" vs.toArray 0)) := tb_push (tb_upd (tb_push T) (Heap.get?_push_size _ rfl))
  show wpAny _ _ _ _ _ (⟨((h.push (seqObj "list" #[] 0)).update h.objs.size (Obj.mapSeq (· ++ vs.toArray))).push (seqObj "list" vs.toArray 0), g, d, t, os⟩ : Shared)
  rw [hsz]
  generalize ((h.push (seqObj "list" #[] 0)).update h.objs.size (Obj.mapSeq (· ++ vs.toArray))).push (seqObj "list" vs.toArray 0) = hh at *
  have ha0 : h.get? (h.objs.size + 1) = none := Heap.get?_none_of_le (Nat.le_succ _)
  refine wpAny_bind (wpAny_holding (wpAny_call_entry_kw (s := ⟨hh, g, d, t, os⟩) slot_list_sort ⟨_, hoL, rfl⟩ entry_list_sort ?body (ksk_l1 _ _)))
  case body =>
    show wpAny (model prog w) A.in1.in1 (Builtin.«list.sort» ⟨[.ref (h.objs.size + 1)], [(Str.ofString "key", .ref q)]⟩) _ _ _
    rw [ksk_t1]
    obtain ⟨e1, ho1⟩ : ∃ e1, (hh.update (h.objs.size + 1) (Obj.mapSeq fun _ => (#[] : Array Value))).get? (h.objs.size + 1) = some (seqObj "list" #[] e1) := ⟨_, get?_update_seq hoL fun _ => #[]⟩
    unfold ksk_tree
    refine wpAny_bind (listItems_at (s := ⟨hh, g, d, t, os⟩) hoL rfl ?_)
    refine wpAny_bind (listUpdate_at (s := ⟨hh, g, d, t, os⟩) hoL rfl ?_ (by rw [List.size_toArray, sizeLine_eq]; lia) (Nat.zero_le _))
    refine wpAny_bind (seqEpoch_at ho1 rfl ?_)
    refine wpAny_bind (wpAny_newTuple ?_ (by show vs.length ≤ _; rw [sizeLine_eq]; lia))
    refine wpAny_bind (wpAny_newList ?_ (Nat.zero_le _))
    refine wpAny_holding ?_
    have hlt : h.objs.size + 1 < hh.objs.size := Heap.lt_size hoL
    refine s_rest (h₀ := h) S ⟨evo_push (evo_push (evo_upd V1 ha0)), tb_push (tb_push (tb_upd T1 hoL)), Heap.get?_push_size _ rfl, Heap.get?_push_of_some _ (Heap.get?_push_of_some _ ho1), fun i k hi => by simp at hi⟩ h1 h64 ?_ ha0 ?_ fun h' c tk V' T' hr => ⟨_, rfl, wpAny_pure ⟨_, rfl, hq h' c tk _ V' T' (Nat.le_succ _) hr⟩⟩
    · show ((hh.update (h.objs.size + 1) _).push _).objs.size ≠ _
      rw [size_push', Heap.size_update]; lia
    · show h.get? ((hh.update (h.objs.size + 1) _).push _).objs.size = _
      rw [size_push', Heap.size_update]; exact Heap.get?_none_of_le (by lia)
end
end Mine
end

section
-- part KM
open PySem PySem.W PyProof.Rows
set_option maxRecDepth 100000
set_option maxHeartbeats 1000000
namespace Mine
theorem KC.evo {p h h' v a ns md f0 f1 c fd0 fd1 es} (T : Tb h) (V : Evo h h') (K : KC p h v a ns md f0 f1 c fd0 fd1 es) : KC p h' v a ns md f0 f1 c fd0 fd1 es := by
  have k : ∀ b o, h.get? b = some o → (∀ vs, o.data ≠ .fields vs ∨ o.cls ≠ .none) → h'.get? b = some o := fun b o e hd => V.1 b o e fun ht => by
    obtain ⟨vs, q⟩ := T.none ht
    rw [e] at q; cases q
    rcases hd vs with x | x <;> exact x rfl
  obtain ⟨B, tn, u1, ea⟩ := K.cls
  obtain ⟨tk, emd⟩ := K.md
  have lk : Lk (fun _ => True) h h' := Lk.evo T V
  exact ⟨⟨B, tn, u1, k _ _ ea fun _ => .inl nofun⟩, let ⟨o, es', n', a', b', r⟩ := K.ns; ⟨o, es', n', k _ _ a' (fun _ => .inl fun q => by rw [b'] at q; cases q), b', r⟩, ⟨tk, k _ _ emd fun _ => .inr nofun⟩, K.i0, fn_lk lk K.o0, K.d0.lk lk, K.i1, fn_lk lk K.o1, K.d1.lk lk, K.ce.lk lk, K.dom⟩
section
variable {prog : Program} {w : World} {B : Around} {E : Value → Shared → Prop} {h : Heap} {g : Array GenState} {d : Drawn} {t : Nat} {os : OsState}
def KK (a : Addr) (vs : List Value) (Z : Addr → Prop) (h : Heap) (k : Value) (i : Nat) : Prop :=
  ∃ x dx v, k = .ref x ∧ Z x ∧ Z dx ∧ ¬ isTab x ∧ ¬ isTab dx ∧ vs[i]? = some v ∧ h.get? x = some { cls := .ref a, dict := some dx, data := .plain, slots := #[some v] } ∧ h.get? dx = some emptyDict
theorem KK.ko {a vs Z k i} (x : KK a vs Z h k i) : ∃ y v, k = .ref y ∧ vs[i]? = some v ∧ KO h a y v := let ⟨y, dx, v, a, _, _, _, _, b, c, d⟩ := x; ⟨y, v, a, b, dx, c, d⟩
theorem sc_K {fv : Addr} {ov : Obj} {fdv : FuncData} {a ns md f0 f1 c : Addr} {fd0 fd1 : FuncData} {es : Array DictEntry} {vs : List Value} {ci : Nat → Nat → Int} {lt : Nat → Nat → Bool} (KX : Frag.In (KT w.params) h) (T : Tb h) (K : KC w.params h (.ref fv) a ns md f0 f1 c fd0 fd1 es) (hd : B.depth < 800) (hu : B.units < 8000)
   (hv : h.get? fv = some ov) (hvd : ov.data = .func fdv) (hvt : ¬ isTab fv) (hin : ∀ v ∈ vs, handedIn v = true) (sw : SW lt) (hci : ∀ i j, i < vs.length → j < vs.length → decide (ci i j < 0) = lt i j)
   (hcmp : ∀ h' i j v v' t C E Q, Evo h h' → Tb h' → C.depth = B.depth + 1 → C.units ≤ B.units + 20 → vs[i]? = some v → vs[j]? = some v' → (∀ h'' tk tk', Evo h' h'' → Tb h'' → Q (.int (ci i j) tk) ⟨h'', g, d, tk', os⟩) → wpAny (model prog w) C (call (.ref fv) [v, v']) Q E ⟨h', g, d, t, os⟩) :
   Sc prog w B (KK a vs) (fun i => i) lt oneType' vs a h g d os where
  sw := sw
  stab := fun {Z h1 h2 k x} kz hk => by
    obtain ⟨y, dx, v, e, z1, z2, t1, t2, ev, e1, e2⟩ := hk
    exact ⟨y, dx, v, e, z1, z2, t1, t2, ev, kz _ _ z1 e1 t1, kz _ _ z2 e2 t2⟩
  key := fun Z h' i v hz0 hz V T' hv t E Q hq => by
    refine w_kx (fun b o e => V.1 b o (KX b o e) (kt_tab _ e)) (K.evo T V) (by lia) fun h2 tk y dy keep hs hy hdy e1 e2 => ?_
    have nt : ∀ b, h'.objs.size ≤ b → ¬ isTab b := fun b hb ht => Nat.lt_irrefl _ (Nat.lt_of_lt_of_le (small_lt T' ht) hb)
    exact hq h2 tk _ (.of keep hs) (T'.nd fun b o e _ _ => keep b o e) ⟨y, dy, v, rfl, hz _ hy, hz _ hdy, nt _ hy, nt _ hdy, hv, e1, e2⟩
  less := fun Z h' i j k k' hz0 hz V T' hk hk' t E Q hq => by
    obtain ⟨x, v, rfl, hv1, ko⟩ := hk.ko
    obtain ⟨y, v', rfl, hv2, ko'⟩ := hk'.ko
    have K' := K.evo T V
    obtain ⟨F, PP⟩ := K'.kfr
    obtain ⟨dx, I⟩ := ko.inst
    rw [keyLt'_oneType, oneLt'_eq]
    simp only [if_true]
    refine wpAny_bind (wpAny_cRoomFor (show B.units < cLine by show B.units < 9900; lia) ?_)
    refine wpAny_bind (ifBound_K (s := ⟨h', g, d, t, os⟩) PP.inn I PP.less PP.fn1 ?_)
    refine w_klt (i := ci i j) (fun b o e => V.1 b o (KX b o e) (kt_tab _ e)) T' K' (by lia) (V.1 _ _ hv hvt) hvd ko ko' (hin _ (List.mem_of_getElem? hv1)) (hin _ (List.mem_of_getElem? hv2)) (fun h2 t2 C E2 Q2 V2 T2 c1 c2 q2 => ?_) fun h2 tk V2 T2 => ?_
    · exact hcmp h2 i j v v' t2 C E2 Q2 (V.trans V2) T2 c1 c2 hv1 hv2 fun h3 tk tk' V3 T3 => q2 h3 tk tk' (V2.trans V3) T3
    · exact wpAny_truthy_bool (by rw [hci i j (List.getElem?_eq_some_iff.mp hv1).1 (List.getElem?_eq_some_iff.mp hv2).1]; exact hq h2 tk V2 T2)
  kind := fun Z h' keys h2 hk t E Q hq => by
    refine kas_kind (T := .ref a) h2 (fun k hkm => ?_) (by simp) (by simp) hq
    obtain ⟨i, hi⟩ := List.getElem?_of_mem hkm
    obtain ⟨x, v, rfl, _, ko⟩ := (hk i k hi).ko
    obtain ⟨dx, I⟩ := ko.inst
    exact I.type
end
end Mine
end

section
-- part U9
open PySem PySem.W PyProof.Rows
set_option maxRecDepth 100000
set_option maxHeartbeats 1000000
namespace Mine
def Zx (Z : Addr → Prop) (x b : Addr) : Prop := Z b ∧ b ≠ x
theorem Lk.sub {Z : Addr → Prop} {x : Addr} {h h' : Heap} (k : Lk Z h h') : Lk (Zx Z x) h h' := fun b o z => k b o z.1
theorem Lc.sub {Z : Addr → Prop} {x : Addr} {c : String} {h h' : Heap} (k : Lc Z c h h') : Lc (Zx Z x) c h h' := fun b o z => k b o z.1
theorem Ls.zx {Z : Addr → Prop} {x : Addr} {h h' : Heap} (k : Ls Z x h h') : Lk (Zx Z x) h h' := fun b o z e hd => k b o z.2 z.1 e hd
theorem Wd.wk {Z : Addr → Prop} {x : Addr} {h : Heap} {u : W} {l : Addr} (y : Wd (Zx Z x) h u l) : Wd Z h u l := y.imp fun _ _ z _ => z.1
theorem Wds.wk {Z : Addr → Prop} {x : Addr} {h : Heap} {u : List W} {l : Addr} (y : Wds (Zx Z x) h u l) : Wds Z h u l := y.imp fun _ _ z _ => z.1
theorem Wd.st {Z : Addr → Prop} {x : Addr} {h : Heap} {u : W} {l : Addr} (hx : h.get? x = none) (y : Wd Z h u l) : Wd (Zx Z x) h u l := y.imp fun b o z e => ⟨z, by rintro rfl; rw [hx] at e; cases e⟩
/-- a list of one's own, to be changed -/
def Ol (Z : Addr → Prop) (h₀ h : Heap) (x : Addr) (its : List Value) : Prop := Z x ∧ h₀.get? x = none ∧ ∃ n, IsL h x its.toArray n
theorem Ol.lk {Z : Addr → Prop} {h₀ h h' : Heap} {x its} (k : Lk Z h h') (y : Ol Z h₀ h x its) : Ol Z h₀ h' x its := let ⟨z, f, n, a⟩ := y; ⟨z, f, n, k _ _ z a .list⟩
theorem Ol.lcL {Z : Addr → Prop} {h₀ h h' : Heap} {x its} (k : Lc Z "list_iterator" h h') (y : Ol Z h₀ h x its) : Ol Z h₀ h' x its := let ⟨z, f, n, a⟩ := y; ⟨z, f, n, k _ _ z a .list (.inl (lne (by decide)))⟩
theorem Ol.lcR {Z : Addr → Prop} {h₀ h h' : Heap} {x its} (k : Lc Z "range_iterator" h h') (y : Ol Z h₀ h x its) : Ol Z h₀ h' x its := let ⟨z, f, n, a⟩ := y; ⟨z, f, n, k _ _ z a .list (.inl (lne (by decide)))⟩
theorem Ol.at_ {Z : Addr → Prop} {h₀ h : Heap} {x its} (y : Ol Z h₀ h x its) : ∃ n, h.get? x = some { cls := .type "list", data := .seq its.toArray n } := let ⟨_, _, n, a⟩ := y; ⟨n, a⟩
theorem Fx.updO {p Z h₀ L h m h' x items n} (hx : IsL h x items n) (hx' : ∃ items' n', IsL h' x items' n') (h0 : h₀.get? x = none) (hb : Heap.SameBut x h h') (F : Fx p Z h₀ L h m) : Fx p Z h₀ L h' m ∧ Ls Z x h h' := by
  obtain ⟨oL, es, k, a, b, r⟩ := F.ns
  have hLx : L ≠ x := by rintro rfl; have q := hx.symm.trans a; injection q with q; subst q; cases b
  have hN : h'.Ns L m := ⟨oL, es, k, hb.extBut _ _ hLx a, b, r⟩
  have hs : h₀.objs.size ≤ h'.objs.size := Nat.le_of_lt (Nat.lt_of_le_of_lt F.ls hN.lt)
  refine ⟨⟨hN, F.k0, F.tb.nd fun b' o' e _ hcl => ?_, ⟨fun b' o' e ht => ?_, hs⟩, F.lo, F.ls, ?_⟩, fun b' o' ne z e hd' => hb.extBut _ _ ne e⟩
  · refine hb.extBut _ _ ?_ e
    rintro rfl; have q := hx.symm.trans e; injection q with q; subst q; rcases hcl with h1 | h1
    · injection h1 with h1; exact absurd h1 (by decide)
    · cases h1
  · refine hb.extBut _ _ ?_ (F.ev.1 _ _ e ht)
    rintro rfl; rw [h0] at e; cases e
  · obtain ⟨c, hc', hz⟩ := F.za
    refine ⟨c, hc'.imp id ?_, hz⟩
    rintro ⟨items2, n2, y⟩
    by_cases hcx : c = x
    · subst hcx; exact hx'
    · exact ⟨items2, n2, hb.extBut _ _ hcx y⟩
section
variable {prog : Program} {w : World} {A : Around} {E : Value → Shared → Prop} {h : Heap} {g : Array GenState} {d : Drawn} {t : Nat} {os : OsState} {env : Env} {Z : Addr → Prop} {h₀ : Heap} {L : Addr} {m : Str → Option Value} {M : Model}
theorem app_w {x : Addr} {its : List Value} {v : Value} {Q : Value → Shared → Prop} (F : Fx w.params Z h₀ L h m) (o : Ol Z h₀ h x its) (hsz : its.length ≤ 100000)
    (hq : ∀ h', Fx w.params Z h₀ L h' m → Lk (Zx Z x) h h' → Ol Z h₀ h' x (its ++ [v]) → Q .none ⟨h', g, d, t, os⟩) : wpAny (model prog w) A (call (.builtin "list.append") [.ref x, v]) Q E ⟨h, g, d, t, os⟩ := by
  obtain ⟨z, f, n, a⟩ := o
  have e3 : ∃ n, IsL (h.update x (Obj.mapSeq (·.push v))) x (its ++ [v]).toArray n := by
    have e : (its ++ [v]).toArray = its.toArray.push v := by simp
    rw [e]
    exact ⟨_, get?_update_seq a (·.push v)⟩
  have hs := Heap.SameBut.update h x (Obj.mapSeq (·.push v))
  refine wpAny_call_entry (s := ⟨h, g, d, t, os⟩) slot_list_append ⟨_, a, rfl⟩ entry_list_append ?_ (args_list_append _ _)
  show wpAny _ _ (updateSeq x (·.push v) >>= fun _ => ret .none) _ _ _
  refine wpAny_bind (wpAny_updateSeq (s := ⟨h, g, d, t, os⟩) a rfl (wpAny_pure ⟨.none, rfl, ?_⟩) (by rw [List.size_toArray, sizeLine_eq]; lia))
  obtain ⟨F', k⟩ := F.updO a ⟨_, _, e3.choose_spec⟩ f hs
  exact hq _ F' k.zx ⟨z, f, e3⟩
theorem next_wsx {x : Addr} {u : List W} {it : Addr} {i : Nat} {Q : Option Value → Shared → Prop} (F : Fx w.params Z h₀ L h m) (hu : WsIt h₀ (Zx Z x) h it u i) (hi : i < u.length)
    (hq : ∀ h' l, Fx w.params Z h₀ L h' m → Lc Z "list_iterator" h h' → WsIt h₀ (Zx Z x) h' it u (i + 1) → Wd (Zx Z x) h' u[i] l → Q (some (.ref l)) ⟨h', g, d, t, os⟩) : wpAny (model prog w) A (pyNext (.ref it)) Q E ⟨h, g, d, t, os⟩ := by
  obtain ⟨l, ⟨z, hn, o, ho, hc, hd⟩, hl⟩ := hu
  obtain ⟨zz, items, n, x, y⟩ := id hl
  obtain ⟨b, ht, hb⟩ := y.get i hi
  rw [Array.getElem?_toList] at ht
  refine wpAny_pyNext_list_item (s := ⟨h, g, d, t, os⟩) ⟨o, ho, hc, hd⟩ x.isList ht fun h' hit hs => ?_
  obtain ⟨F', k⟩ := F.upd ho hn (fun es n e => by rw [hd] at e; cases e) (fun es n e => by rw [hd] at e; cases e) ⟨fun e => by rw [hc] at e; injection e with e; exact absurd e (by decide), fun e => by rw [hc] at e; cases e⟩ hs.extBut
  have k' := k.lc ⟨o, ho, hc, _, hd⟩
  exact hq _ _ F' k' ⟨l, ⟨z, hn, hit⟩, hl.lcL k'.sub⟩ (hb.lcL k'.sub)
theorem next_wsex {x : Addr} {u : List W} {it : Addr} {i : Nat} {Q : Option Value → Shared → Prop} (F : Fx w.params Z h₀ L h m) (hu : WsIt h₀ (Zx Z x) h it u i) (hi : ¬ i < u.length) (hh : A.handled = none)
    (hq : ∀ h', Fx w.params Z h₀ L h' m → Lc Z "list_iterator" h h' → Q none ⟨h', g, d, t, os⟩) : wpAny (model prog w) A (pyNext (.ref it)) Q E ⟨h, g, d, t, os⟩ := by
  obtain ⟨l, ⟨z, hn, o⟩, hl⟩ := hu
  exact next_wse F ⟨l, ⟨z.1, hn, o⟩, hl.wk⟩ hi hh hq
theorem next_rx {x : Addr} {it : Addr} {i k : Nat} {Q : Option Value → Shared → Prop} (F : Fx w.params Z h₀ L h m) (hu : RIt h₀ (Zx Z x) h it i (k + 1))
    (hq : ∀ h' tk tk', Fx w.params Z h₀ L h' m → Lc Z "range_iterator" h h' → RIt h₀ (Zx Z x) h' it (i + 1) k → Q (some (.int i tk)) ⟨h', g, d, tk', os⟩) : wpAny (model prog w) A (pyNext (.ref it)) Q E ⟨h, g, d, t, os⟩ := by
  obtain ⟨z, hn, ho⟩ := hu
  exact next_r F ⟨z.1, hn, ho⟩ fun h' tk tk' F' K' r' => hq h' tk tk' F' K' ⟨z, hn, r'.o⟩
theorem next_rex {x : Addr} {it : Addr} {i : Nat} {Q : Option Value → Shared → Prop} (F : Fx w.params Z h₀ L h m) (hu : RIt h₀ (Zx Z x) h it i 0) (hh : A.handled = none)
    (hq : ∀ h', Fx w.params Z h₀ L h' m → Lc Z "range_iterator" h h' → Q none ⟨h', g, d, t, os⟩) : wpAny (model prog w) A (pyNext (.ref it)) Q E ⟨h, g, d, t, os⟩ := next_re F ⟨hu.z.1, hu.n, hu.o⟩ hh hq
theorem Ol.ne {x l : Addr} {its} (o : Ol Z h₀ h x its) (hl : h.get? l = none) : l ≠ x := by
  obtain ⟨n, e⟩ := o.at_
  rintro rfl; rw [hl] at e; cases e
theorem RIt.nw {x it : Addr} {its} {i k : Nat} {h' : Heap} (o : Ol Z h₀ h x its) (hl : h.get? it = none) (r : RIt h₀ Z h' it i k) : RIt h₀ (Zx Z x) h' it i k := ⟨⟨r.z, o.ne hl⟩, r.n, r.o⟩
theorem Wd.nx {x l : Addr} {its} {u : W} {h' : Heap} (o : Ol Z h₀ h x its) (hl : h.get? l = none) (y : Wd Z h' u l) : Wd (Zx Z x) h' u l := ⟨⟨y.1, o.ne hl⟩, y.2⟩
/-- an iterator over words of a list that is older than x -/
theorem pyIter_wsx {x : Addr} {its : List Value} {u : List W} {a : Addr} {Q : Value → Shared → Prop} (F : Fx w.params Z h₀ L h m) (o : Ol Z h₀ h x its) (hu : Wds (Zx Z x) h u a)
    (hq : ∀ h' it, Fx w.params Z h₀ L h' m → Lk Z h h' → WsIt h₀ (Zx Z x) h' it u 0 → Q (.ref it) ⟨h', g, d, t, os⟩) : wpAny (model prog w) A (pyIter (.ref a)) Q E ⟨h, g, d, t, os⟩ := by
  obtain ⟨z, items, n, y1, y2⟩ := id hu
  obtain ⟨F', k⟩ := F.push { cls := .type "list_iterator", data := .fields #[.ref a, .int 0 0] }
  exact wpAny_pyIter_list (s := ⟨h, g, d, t, os⟩) y1.isList (hq _ _ F' k ⟨a, ⟨⟨F.zf _ (Nat.le_refl _), o.ne (Heap.get?_none_of_le (Nat.le_refl _))⟩, F.newAddr (Nat.le_refl _), _, Heap.get?_push_size _ rfl, rfl, rfl⟩, hu.lk k.sub⟩)
theorem exF {a : Addr} {e : Expr} {pos : Pos} {Q : Flow → Shared → Prop} {s : Shared} (I : EI w.params a L env) (hq : wpAny (model prog w) A (eval e env) (fun _ => Q .next) E s) (hs : swapsWith e none pos.line env = pure false) : wpAny (model prog w) A (exec (.Expr e pos) env) Q E s :=
  wpAny_Expr_any hq (by unfold interactive; rw [I.kd]; rfl) hs
theorem apC {o elt : Expr} {apos pos : Pos} {Q : Value → Shared → Prop} {s : Shared}
    (hq : wpAny (model prog w) A (eval o env) (fun ov s₁ => ∃ x its Z h₀, ov = .ref x ∧ Ol Z h₀ s₁.heap x its ∧ wpAny (model prog w) A (eval elt env) (fun y s₂ => wpAny (model prog w) A (call (.builtin "list.append") [.ref x, y]) Q E s₂) E s₁) E s)
    (hbase : attributeBase o "append" env (eval o env) = eval o env) (hline : (apos.endLine == pos.line) = true) (htrees : starEach [elt] env = [(false, eval elt env)]) :
    wpAny (model prog w) A (eval (.Call (.Attribute o (Str.ofString "append") apos) [elt] [] pos) env) Q E s := by
  have e : backTo pos (starEach [elt] env) = [(false, eval elt env)] := by rw [htrees]; rfl
  refine wpAny_Call_append hbase (by rw [e]; rfl) hline e (wpAny_mono hq (fun ov s₁ z => ?_) fun _ _ z => z)
  obtain ⟨x, its, Z, h₀, rfl, ⟨_, _, n, a⟩, b⟩ := z
  exact ⟨x, its.toArray, rfl, ⟨_, n, a, rfl, rfl, rfl⟩, b⟩
theorem srC {e kv : Expr} {p0 kp pos : Pos} {a : Addr} {Q : Value → Shared → Prop} (F : Fx w.params Z h₀ L h m) (I : EI w.params a L env)
    (hq : wpAny (model prog w) A (eval e env) (fun v s₁ => wpAny (model prog w) A (eval kv env) (fun k s₂ => wpAny (model prog w) A (call (.builtin "sorted") [v] [(Str.ofString "key", k)]) Q E s₂) E s₁) E ⟨h, g, d, t, os⟩)
    (hx : (fdOf w.params a).scope.names.lookup (Str.ofString "sorted") = some .globalImplicit) (he : starEach [e] env = [(false, eval e env)]) :
    wpAny (model prog w) A (eval (.Call (.Name (Str.ofString "sorted") p0) [e] [⟨some (Str.ofString "key"), kv, kp⟩] pos) env) Q E ⟨h, g, d, t, os⟩ := by
  show wpAny (model prog w) A (do callWith pos (← eval (.Name (Str.ofString "sorted") p0) env) [] (backTo pos (starEach [e] env)) (backToKw pos (keywordEach [⟨some (Str.ofString "key"), kv, kp⟩] env))) Q E _
  refine wpAny_bind (nmB F I (gm_sorted _) (gb_sorted _) ?_ hx (by kernel_rfl))
  have e1 : backTo pos (starEach [e] env) = [(false, eval e env)] := by rw [he]; rfl
  refine callWith_kw ?_ (by rw [e1]; rfl) (by rw [e1]; rfl) rfl rfl
  rw [e1]
  refine Calls.spliced_cons (wpAny_mono hq (fun v s₁ z => Calls.spliced_nil (kws_cons (wpAny_mono z (fun k s₂ y => kws_nil y) fun _ _ z => z))) fun _ _ z => z)
end
end Mine
end

section
-- part U10
open PySem PySem.W PyProof.Rows
set_option maxRecDepth 100000
set_option maxHeartbeats 1000000
namespace Mine
theorem ane {a b : Nat} (h : a < b ∨ b < a) : @Ne Addr a b := fun e => by have e' : (a : Nat) = b := e; lia
section
variable {prog : Program} {w : World} {A : Around} {E : Value → Shared → Prop} {h : Heap} {g : Array GenState} {d : Drawn} {t : Nat} {os : OsState} {env : Env} {Z : Addr → Prop} {h₀ : Heap} {L : Addr} {m : Str → Option Value} {M : Model}
theorem Ints.snoc {c : Int} {t : Tok} : ∀ {vs : List Value} {ws : List Int}, Ints vs ws → Ints (vs ++ [.int c t]) (ws ++ [c])
  | _, _, .nil => .cons .nil
  | _, _, .cons y => .cons y.snoc
/-- the target's name within a comprehension -/
def Nm (M : Model) (A : Around) (env : Env) (x : Str) (v : Value) (s : Shared) : Prop := ∀ pos Q E t, Q v { s with toks := t } → wpAny M A (eval (.Name x pos) env) Q E { s with toks := t }
theorem lcW {elt iter : Expr} {x : Str} {px : Pos} {scope : Scope} {pos : Pos} {Q : Value → Shared → Prop} {ws : List Int} {s : Shared}
    (hclos : closureFor scope env = pure []) (hcell : scope.names.all (fun y => y.2 != .cell) = true) (hkind : scope.kind = .function)
    (hnames : scope.names.all (fun y => y.2 != .local || scope.names.lookup y.1 == some .local) = true) (hx : scope.names.lookup x = some .local) (hd : (x == ("__debug__" : Str)) = false) (hh : A.handled = none)
    (h : wpAny (model prog w) A (eval iter env) (fun v s₁ => ∃ h₁ t₁ m ax its, s₁ = ⟨h₁, g, d, t₁, os⟩ ∧ v = .ref ax ∧ Fx w.params Z h₀ L h₁ m ∧ h₁.IsList ax its ∧ its.size = ws.length ∧ its.size ≤ 100000 ∧
      (∀ i (hi : i < its.size) (hw : i < ws.length) h' tk env' E', Fx w.params Z h₀ L h' m → Lk Z h₁ h' → Nm (model prog w) A env' x its[i] ⟨h', g, d, tk, os⟩ → ∀ Q', (∀ tk tk', Q' (.int ws[i] tk) ⟨h', g, d, tk', os⟩) → wpAny (model prog w) A (eval elt env') Q' E' ⟨h', g, d, tk, os⟩) ∧
      ∀ h' D tk, Fx w.params Z h₀ L h' m → Lk Z h₁ h' → Wd Z h' ws D → h₁.get? D = none → Q (.ref D) ⟨h', g, d, tk, os⟩) E s)
    (hs : ∀ x, foldedSetIterable iter env x = pure x := by intro _; rfl) :
    wpAny (model prog w) A (eval (.ListComp elt [⟨.Name x px, iter, [], 0⟩] scope pos) env) Q E s := by
  have hnames' : ∀ y ∈ scope.names, y.2 = .local → scope.names.lookup y.1 = some .local := fun y hy hl => by
    have := List.all_eq_true.mp hnames y hy
    rw [hl] at this
    simpa using this
  rw [eval_ListComp]
  refine wpAny_comprehension_free (use := none) rfl hs hclos hkind hnames' (wpAny_mono h (fun v s₁ z => ?_) fun _ _ z => z)
  obtain ⟨h₁, t₁, m, ax, its, rfl, rfl, F, hl, hlen, hsz, helt, hQ⟩ := z
  have hax : ax < h₁.objs.size := let ⟨_, e, _⟩ := hl; Heap.lt_size e
  refine wpAny_pyIter_list (s := ⟨h₁, g, d, t₁, os⟩) hl ?_
  refine wpAny_newObj_type (wpAny_newFunctionEnv (fun y hy => by simpa using List.all_eq_true.mp hcell y hy) (by intro y hy; simp at hy) (fun h₂ hns hsb => ?_) hkind)
  dsimp only at hns hsb ⊢
  generalize hH : (h₁.push { cls := .type "list_iterator", data := .fields #[.ref ax, .int 0 0] }).push { cls := .type "list", dict := none, data := .seq ([] : List Value).toArray } = H at hns hsb ⊢
  have sI : (h₁.push { cls := .type "list_iterator", data := .fields #[.ref ax, .int 0 0] }).objs.size = h₁.objs.size + 1 := Heap.size_push ..
  have sH : H.objs.size = h₁.objs.size + 2 := by rw [← hH, Heap.size_push, Heap.size_push]
  have eI : H.get? h₁.objs.size = some { cls := .type "list_iterator", data := .fields #[.ref ax, .int 0 0] } := by rw [← hH]; exact Heap.get?_push_of_some _ (Heap.get?_push_size _ rfl)
  have eD : H.get? (h₁.objs.size + 1) = some { cls := .type "list", data := .seq #[] } := by rw [← hH, ← sI]; exact Heap.get?_push_size _ rfl
  have old : ∀ b o, h₁.get? b = some o → h₂.get? b = some o := fun b o e => hsb.extBut b o (ane (.inl (Nat.lt_of_lt_of_le (Heap.lt_size e) (by lia)))) (Heap.get?_push_of_some _ (hH ▸ Heap.get?_push_of_some _ (Heap.get?_push_of_some _ e)))
  have eI2 : h₂.get? h₁.objs.size = some { cls := .type "list_iterator", data := .fields #[.ref ax, .int 0 0] } := hsb.extBut _ _ (ane (by lia)) (Heap.get?_push_of_some _ eI)
  have eD2 : h₂.get? (h₁.objs.size + 1) = some { cls := .type "list", data := .seq #[] } := hsb.extBut _ _ (ane (by lia)) (Heap.get?_push_of_some _ eD)
  rw [sI]
  have loop : codeAny (model prog w) A (.compLoop (.ListComp elt [⟨.Name x px, iter, [], 0⟩] scope pos) 0 (.ref h₁.objs.size) (.ref (h₁.objs.size + 1)) (compEnvC scope [] H.objs.size env))
      (compPost (model prog w) A E none Q (.ref (h₁.objs.size + 1)) H.objs.size) ⟨h₂, g, d, t₁ + 0, os⟩ := by
    refine codeAny_compLoop_list (fun k s => ∃ hh tk m' ys i n', s = ⟨hh, g, d, tk, os⟩ ∧ (∀ b o, h₁.get? b = some o → hh.get? b = some o) ∧ hh.IsListIter h₁.objs.size ax i ∧ hh.Ns H.objs.size m' ∧ IsL hh (h₁.objs.size + 1) ys n' ∧
      Ints ys.toList (ws.take i) ∧ ys.size = i ∧ i ≤ ws.length ∧ k = ws.length - i) ?_ ws.length ⟨h₂, _, _, #[], 0, _, rfl, old, ⟨_, eI2, rfl, rfl⟩, hns, eD2, .nil, rfl, Nat.zero_le _, rfl⟩
    rintro k s ⟨hh2, tk, m', ys, i, n', rfl, ko, hit, hn, hD, hi, hys, hle, rfl⟩
    have hl2 : hh2.IsList ax its := let ⟨o, e, r⟩ := hl; ⟨o, ko _ _ e, r⟩
    have frame : ∀ {h3 : Heap}, (∀ b o, h₁.get? b = some o → h3.get? b = some o) → (∃ o, h3.get? (h₁.objs.size + 1) = some o) → Fx w.params Z h₀ L h3 m ∧ Lk Z h₁ h3 := fun k ⟨o, e⟩ => F.keep k (Nat.le_of_lt (Nat.lt_of_le_of_lt (Nat.le_succ _) (Heap.lt_size e)))
    by_cases hlt : i < ws.length
    · refine wpAny_pyNext_list_item (s := ⟨hh2, g, d, tk, os⟩) hit hl2 (x := its[i]'(by lia)) (by simp [hlen, hlt]) fun h3 hit3 hs3 => ?_
      have k3 : ∀ b o, h₁.get? b = some o → h3.get? b = some o := fun b o e => hs3.extBut _ _ (Nat.ne_of_lt (Heap.lt_size e)) (ko _ _ e)
      have hD3 := hs3.extBut _ _ (@ane (h₁.objs.size + 1) h₁.objs.size (by lia)) hD
      have hn3 : h3.Ns H.objs.size m' := hn.extBut hs3.extBut (ane (by lia))
      refine wpAny_assign_Name (wpAny_storeName_local (s := ⟨h3, g, d, tk, os⟩) (lookup_relabel_local hx) hn3 (fun h4 hn4 hs4 => ?_) (by simp [compEnvC, relabel, hkind]))
      have k4 : ∀ b o, h₁.get? b = some o → h4.get? b = some o := fun b o e => hs4.extBut _ _ (ane (.inl (Nat.lt_of_lt_of_le (Heap.lt_size e) (show h₁.objs.size ≤ H.objs.size by lia)))) (k3 _ _ e)
      have hD4 := hs4.extBut _ _ (@ane (h₁.objs.size + 1) H.objs.size (by lia)) hD3
      have hit4 : h4.IsListIter h₁.objs.size ax (i + 1) := let ⟨o, e, r⟩ := hit3; ⟨o, hs4.extBut _ _ (@ane h₁.objs.size H.objs.size (by lia)) e, r⟩
      obtain ⟨F4, K4⟩ := frame k4 ⟨_, hD4⟩
      refine helt i (by lia) hlt h4 _ _ _ F4 K4 (fun pos Q E t hq => ?_) _ fun tk1 tk2 => ?_
      · exact wpAny_Name (s := ⟨h4, g, d, t, os⟩) (wpAny_loadName_local (by simp [compEnvC, relabel, hkind]) (lookup_relabel_local hx) hn4 (by simp) hq) hd
      · refine append_at (s := ⟨h4, g, d, tk2, os⟩) hD4 (fun h5 hs5 hD5 => ?_) (by rw [sizeLine_eq]; lia)
        have k5 : ∀ b o, h₁.get? b = some o → h5.get? b = some o := fun b o e => hs5.extBut _ _ (ane (.inl (Nat.lt_of_lt_of_le (Heap.lt_size e) (by lia)))) (k4 _ _ e)
        refine ⟨ws.length - (i + 1), by lia, h5, _, _, ys.push (.int ws[i] tk1), i + 1, _, rfl, k5, let ⟨o, e, r⟩ := hit4; ⟨o, hs5.extBut _ _ (ane (by lia)) e, r⟩, Heap.Ns.extBut (a := H.objs.size) hn4 hs5.extBut (@ane H.objs.size (h₁.objs.size + 1) (by lia)), hD5, ?_, by rw [Array.size_push, hys], hlt, rfl⟩
        rw [List.take_succ_eq_append_getElem hlt, Array.toList_push]
        exact Ints.snoc hi
    · refine wpAny_pyNext_list_end (s := ⟨hh2, g, d, tk, os⟩) hh hit hl2 (Array.getElem?_eq_none (by lia)) fun h3 hs3 => ?_
      have k3 : ∀ b o, h₁.get? b = some o → h3.get? b = some o := fun b o e => hs3 _ _ (Nat.ne_of_lt (Heap.lt_size e)) (ko _ _ e)
      have hD3 := hs3 _ _ (@ane (h₁.objs.size + 1) h₁.objs.size (by lia)) hD
      refine ⟨m', hn.extBut hs3 (ane (by lia)), fun h4 hs4 => ?_⟩
      have k4 : ∀ b o, h₁.get? b = some o → h4.get? b = some o := fun b o e => hs4.extBut _ _ (ane (.inl (Nat.lt_of_lt_of_le (Heap.lt_size e) (show h₁.objs.size ≤ H.objs.size by lia)))) (k3 _ _ e)
      have hD4 := hs4.extBut _ _ (@ane (h₁.objs.size + 1) H.objs.size (by lia)) hD3
      obtain ⟨F4, K4⟩ := frame k4 ⟨_, hD4⟩
      rw [List.take_of_length_le (by lia)] at hi
      exact hQ h4 _ _ F4 K4 ⟨F.zf _ (Nat.le_succ _), _, _, hD4, hi⟩ (Heap.get?_none_of_le (Nat.le_succ _))
  exact codeAny_compStart_list loop (wpAny_pyIter_listiter (s := ⟨h₂, g, d, t₁ + 0, os⟩) ⟨_, eI2, rfl, rfl⟩ loop)
end
end Mine
end

section
-- part U11
open PySem PySem.W PyProof.Rows
set_option maxRecDepth 100000
set_option maxHeartbeats 1000000
namespace Mine
theorem CT.but {h h' : Heap} {c P x : Addr} {ps} (hx : Heap.ExtBut x h h') (ex : ∃ vs, h.get? x = some { cls := .none, data := .fields vs }) (k : CT h c P ps) (hP : P ≠ x) : CT h' c P ps := by
  refine k.extBut hx ?_ hP
  obtain ⟨o, e, hc⟩ := k.cls
  obtain ⟨vs, ev⟩ := ex
  rintro rfl; rw [e] at ev; cases ev; cases hc
theorem CR.but {h h' : Heap} {c x : Addr} {q} (hx : Heap.ExtBut x h h') (ex : ∃ vs, h.get? x = some { cls := .none, data := .fields vs }) (k : CR h c q) : CR h' c q := k.keep fun o e hc => hx _ _ (by
  obtain ⟨vs, ev⟩ := ex
  rintro rfl; rw [e] at ev; cases ev; cases hc) e
theorem KCode.but {h h' : Heap} {c x : Addr} (hx : Heap.ExtBut x h h') (hxt : isTab x) (ex : ∃ vs, h.get? x = some { cls := .none, data := .fields vs }) (k : KCode h c) : KCode h' c := by
  obtain ⟨P, ps, nt, ct, hall⟩ := k
  refine ⟨P, ps, nt, ct.but hx ex (by rintro rfl; exact nt hxt), fun q hq => let ⟨m, a, b⟩ := hall q hq; ⟨m, a, b.but hx ex⟩⟩
theorem put79 {h : Heap} (T : Tb h) (h' : Heap) (hx : Heap.ExtBut 79 h h') (tab : Tab h' 83 79 81 58 fun h c => CR h c "_law_back.<locals>.<lambda>") : Tb h' := by
  have ex := T.none (b := 79) (.inr (.inl rfl))
  obtain ⟨ps, ct, r⟩ := T.t30
  obtain ⟨ps2, ct2, r2⟩ := T.t86
  exact ⟨⟨ps, ct.but hx ex (by decide), r.imp id fun ⟨c', e, k⟩ => ⟨c', e, k.but hx (.inr (.inl rfl)) ex⟩⟩, tab, ⟨ps2, ct2.but hx ex (by decide), r2.imp id fun ⟨c', e, k⟩ => ⟨c', e, k.but hx ex⟩⟩⟩
theorem put86 {h : Heap} (T : Tb h) (h' : Heap) (hx : Heap.ExtBut 86 h h') (tab : Tab h' 88 86 102 34 fun h c => CR h c "law.<locals>.<lambda>") : Tb h' := by
  have ex := T.none (b := 86) (.inr (.inr rfl))
  obtain ⟨ps, ct, r⟩ := T.t30
  obtain ⟨ps2, ct2, r2⟩ := T.t79
  exact ⟨⟨ps, ct.but hx ex (by decide), r.imp id fun ⟨c', e, k⟩ => ⟨c', e, k.but hx (.inr (.inr rfl)) ex⟩⟩, ⟨ps2, ct2.but hx ex (by decide), r2.imp id fun ⟨c', e, k⟩ => ⟨c', e, k.but hx ex⟩⟩, tab⟩
structure FE (h : Heap) (fd : FuncData) (params : Arguments) (body : Expr) (scope : Scope) (clo : List (Str × Addr)) (q : Str) : Prop where
  pa : fd.params = params
  bo : fd.body = .expr body
  sc : fd.scope = scope
  gl : fd.globals = 3
  bu : fd.builtins = 0
  cl : fd.closure = clo
  qu : fd.qualname = q
  de : fd.defaults = .none
  co : ∃ m, fd.code = .ref m ∧ CR h m q
theorem FE.lk {h h' : Heap} {fd a b s c q} (k : Lk (fun _ => True) h h') (x : FE h fd a b s c q) : FE h' fd a b s c q :=
  ⟨x.pa, x.bo, x.sc, x.gl, x.bu, x.cl, x.qu, x.de, let ⟨m, e, r⟩ := x.co; ⟨m, e, r.keep fun o e hc => k _ _ trivial e ⟨(fun es n q => by obtain ⟨o', vs, t, a', b', d', _⟩ := r; rw [a'] at e; cases e; rw [d'] at q; cases q), .inl fun q => by rw [hc] at q; cases q⟩⟩⟩
theorem CL.lcR {Z : Addr → Prop} {h h' : Heap} {c : Addr} {v : Value} (k : Lc Z "range_iterator" h h') (x : CL Z h c v) : CL Z h' c v := let ⟨z, o, a, b⟩ := x; ⟨z, o, k _ _ z a ⟨(fun _ _ q => by rw [b] at q; cases q), .inr fun _ q => by rw [b] at q; cases q⟩ (.inr fun _ q => by rw [b] at q; cases q), b⟩
section
variable {prog : Program} {w : World} {A : Around} {E : Value → Shared → Prop} {h : Heap} {g : Array GenState} {d : Drawn} {t : Nat} {os : OsState} {env : Env} {Z : Addr → Prop} {h₀ : Heap} {L : Addr} {m : Str → Option Value} {M : Model}
theorem lamT {cc P l k : Nat} {qn : Str} {pos : Pos} {firstLine : Nat} {name : Str} {p : Arguments} {scope : Scope} {body : FuncBody} {Q : Value → Shared → Prop} (hP : isTab P) (TT : Tab h cc P l k (fun h c => CR h c qn))
   (put : ∀ h', Heap.ExtBut P h h' → Tab h' cc P l k (fun h c => CR h c qn) → Tb h') (T : Tb h) (hc : env.code = .ref cc) (hline : pos.line = l) (hcol : pos.col = k)
   (hq : ∀ h' tk m, Evo h h' → Tb h' → CR h' m qn → Q (.ref m) ⟨h', g, d, tk, os⟩) : wpAny M A (functionCode env pos firstLine name qn p scope body) Q E ⟨h, g, d, t, os⟩ := by
  obtain ⟨ps, ct, r⟩ := TT
  rcases r with rfl | ⟨c', rfl, cr⟩
  · refine wpAny_functionCodeX (s := ⟨h, g, d, t, os⟩) hc ct.1 ct.2 rfl fun m h' tk hk hm hlt hic hrec htab hP' => ?_
    have e2 : (#[] ++ #[rawInt pos.line, rawInt pos.col, Value.ref m] : Array Value) = #[rawInt l, rawInt k, .ref m] := by rw [hline, hcol]; rfl
    rw [e2] at hic htab
    obtain ⟨P', _, hic', htab'⟩ := hP'
    have hcr : CR h' m qn := CT.cr ⟨hic', htab'⟩ hrec
    exact hq h' tk m ⟨fun b o e ht => hk b o (by rintro rfl; exact ht hP) e, Nat.le_of_lt (Nat.lt_of_le_of_lt hm hlt)⟩ (put h' hk ⟨_, ⟨hic, htab⟩, .inr ⟨m, rfl, hcr⟩⟩) hcr
  · have hf : codeAmong pos (#[rawInt l, rawInt k, Value.ref c'] : Array Value).toList = some (.ref c') := by
      rw [among_po, hline, hcol]; exact among_one l k (po l k) _ rfl rfl
    exact wpAny_functionCode_hit (s := ⟨h, g, d, t, os⟩) hc ct.1 hf (hq h t c' (.rfl' h) T cr)
/-- a lambda is laid -/
theorem mkLam {cc P l k : Nat} {qn : Str} {pos : Pos} {params : Arguments} {scope : Scope} {body : Expr} {clo : List (Str × Addr)} {Q : Value → Shared → Prop} (F : Fx w.params Z h₀ L h m) (hP : isTab P)
   (TT : ∀ h, Tb h → Tab h cc P l k (fun h c => CR h c qn)) (put : ∀ {h}, Tb h → ∀ h', Heap.ExtBut P h h' → Tab h' cc P l k (fun h c => CR h c qn) → Tb h') (hc : env.code = .ref cc) (hg : env.globals = 3) (hb : env.builtins = 0)
   (hclo : closureFor scope env = pure clo) (hdef : defaultsOf params env = ([], [])) (hqn : env.qual ++ Str.ofString "<lambda>" = qn)
   (hline : pos.line = l) (hcol : pos.col = k)
   (hq : ∀ h' tk f fd, Fx w.params Z h₀ L h' m → Lk Z h h' → h'.get? f = some { cls := .type "function", data := .func fd } → FE h' fd params body scope clo qn → ¬ isTab f → Q (.ref f) ⟨h', g, d, tk, os⟩) :
   wpAny M A (eval (.Lambda params body scope pos) env) Q E ⟨h, g, d, t, os⟩ := by
  refine kla_eval hdef ?_
  rw [show (env.qual ++ "<lambda>" : Str) = qn from hqn]
  unfold makeFunction
  simp only [List.zip_nil_right, List.filterMap_nil, List.isEmpty_nil, if_true, pure_bind, hclo]
  have rest : ∀ (h1 : Heap) (t1 : Nat) (ctv : Value), Fx w.params Z h₀ L h1 m → Lk Z h h1 → wpAny M A (do
      let code ← functionCode env pos pos.line "<lambda>" qn params scope (.expr body)
      let builtins ← builtinsFor env.globals env.builtins
      let pm ← nsGet env.globals "__name__"
      newObj (.type "function") (.func { name := "<lambda>", qualname := qn, params, body := .expr body, scope, globals := env.globals, closure := clo, closureTuple := ctv, code, builtins, defaults := .none, kwdefaults := .none, annotations := none, pyModule := pm.getD .none, doc := .none })) Q E ⟨h1, g, d, t1, os⟩ := by
    intro h1 t1 ctv F1 k1
    refine wpAny_bind (lamT hP (TT _ F1.tb) (put F1.tb) F1.tb hc hline hcol fun h2 t2 m2 V2 T2 cr => ?_)
    obtain ⟨F2, k2⟩ := F1.evo V2 T2
    have KX2 := F2.kx
    obtain ⟨e1, e2, e3⟩ := kt4d w.params
    rw [hg, hb]
    refine wpAny_bind ?_
    unfold builtinsFor
    refine wpAny_bind (wpAny_nsGet (s := ⟨h2, g, d, t2, os⟩) (gNs KX2) ?_)
    rw [show mgl w.params ("__builtins__" : Str) = some (.ref 4) from gl_bs w.params]
    dsimp only
    rw [if_neg (by decide)]
    refine wpAny_bind (wpAny_load (s := ⟨h2, g, d, t2, os⟩) (KX2 4 _ (kt4 _)) ?_)
    rw [e1, e2, e3]
    refine wpAny_pure ?_
    refine wpAny_bind (wpAny_nsGet (s := ⟨h2, g, d, t2, os⟩) (gNs KX2) ?_)
    refine wpAny_newObj_type (s := ⟨h2, g, d, t2, os⟩) ?_ (by trivial)
    obtain ⟨F3, k3⟩ := F2.push { cls := .type "function", data := .func { name := "<lambda>", qualname := qn, params, body := .expr body, scope, globals := 3, closure := clo, closureTuple := ctv, code := .ref m2, builtins := 0, defaults := .none, kwdefaults := .none, annotations := none, pyModule := ((mgl w.params ("__name__" : Str)).getD .none), doc := .none } }
    refine hq _ _ _ _ F3 (fun b o z e hk => k3 _ _ z (k2 _ _ z (k1 _ _ z e hk) hk) hk) (Heap.get?_push_size _ rfl) ⟨rfl, rfl, rfl, rfl, rfl, rfl, rfl, rfl, m2, rfl, cr.keep fun o e _ => Heap.get?_push_of_some _ e⟩ ?_
    intro ht
    exact Nat.lt_irrefl _ (small_lt T2 ht)
  cases hcl : clo.isEmpty with
  | true => simp only [if_true, pure_bind]; exact rest h t .none F fun _ _ _ e _ => e
  | false =>
    simp only [Bool.false_eq_true, if_false]
    refine wpAny_bind (wpAny_newTextTuple (s := ⟨h, g, d, t, os⟩) ?_)
    obtain ⟨F1, k1⟩ := F.push { cls := .type "tuple", data := .seq ((clo.mergeSort fun a b => decide (a.1.cps.toList ≤ b.1.cps.toList)).map (.ref ·.2)).toArray }
    exact rest _ _ _ F1 k1
end
end Mine
end

section
-- part U12
open PySem PySem.W PyProof.Rows
set_option maxRecDepth 100000
set_option maxHeartbeats 1000000
namespace Mine
theorem Ints.are {vs : List Value} {ws : List Int} (x : Ints vs ws) : IntsAre vs ws := by
  induction x with
  | nil => exact .nil
  | cons _ ih => exact .cons _ _ ih
theorem ints_of : ∀ (acc : List Value) (ws : List Int), acc.length = ws.length → (∀ i (hi : i < ws.length), ∃ t, acc[i]? = some (.int ws[i] t)) → Ints acc ws
  | [], [], _, _ => .nil
  | v :: acc, x :: ws, h1, h2 => by
    obtain ⟨t, e⟩ := h2 0 (by simp)
    have e' : v = .int x t := by simpa using e
    rw [e']
    exact .cons (ints_of acc ws (by simpa using h1) fun i hi => let ⟨t, e⟩ := h2 (i + 1) (by simpa using hi); ⟨t, e⟩)
  | [], _ :: _, h, _ => by simp at h
  | _ :: _, [], h, _ => by simp at h
theorem Ints.pick {ls : List Value} {us : W} (x : Ints ls us) : ∀ p : List Nat, (∀ i ∈ p, i < us.length) → Ints (p.map fun i => ls.getD i .none) (p.map fun i => us.getD i 0)
  | [], _ => .nil
  | i :: p, hp => by
    obtain ⟨t, e⟩ := x.get i (hp i (.head _))
    have hi' := hp i (.head _)
    have e2 : ls.getD i .none = .int us[i] t := by rw [List.getD_eq_getElem?_getD, e]; rfl
    have e3 : us.getD i 0 = us[i]'(hp i (.head _)) := by simp [List.getD_eq_getElem?_getD, hp i (.head _)]
    rw [List.map_cons, List.map_cons, e2, e3]
    exact .cons (x.pick p fun j hj => hp j (.tail _ hj))
theorem Lk.sub2 {Z : Addr → Prop} {x y : Addr} {h h' : Heap} (k : Lk (Zx Z y) h h') : Lk (Zx (Zx Z x) y) h h' := fun b o z => k b o ⟨z.1.1, z.2⟩
theorem Ol.wk {Z : Addr → Prop} {y : Addr} {h₀ h : Heap} {x its} (o : Ol (Zx Z y) h₀ h x its) : Ol Z h₀ h x its := ⟨o.1.1, o.2⟩
theorem Ol.sp {Z : Addr → Prop} {y : Addr} {h₀ h : Heap} {x its} (ne : x ≠ y) (o : Ol Z h₀ h x its) : Ol (Zx Z y) h₀ h x its := ⟨⟨o.1, ne⟩, o.2⟩
theorem Ol.st {Z : Addr → Prop} {y : Addr} {h₀ h : Heap} {x its} (hy : h.get? y = none) (o : Ol Z h₀ h x its) : Ol (Zx Z y) h₀ h x its := o.sp (Ne.symm (o.ne hy))
theorem CL.wk {Z : Addr → Prop} {y : Addr} {h : Heap} {c v} (o : CL (Zx Z y) h c v) : CL Z h c v := ⟨o.1.1, o.2⟩
theorem CL.st {Z : Addr → Prop} {y : Addr} {h : Heap} {c v} (hy : h.get? y = none) (o : CL Z h c v) : CL (Zx Z y) h c v := let ⟨z, ob, e, r⟩ := o; ⟨⟨z, by rintro rfl; rw [hy] at e; cases e⟩, ob, e, r⟩
theorem RIt.wk {Z : Addr → Prop} {y : Addr} {h₀ h : Heap} {it i k} (o : RIt h₀ (Zx Z y) h it i k) : RIt h₀ Z h it i k := ⟨o.z.1, o.n, o.o⟩
theorem RIt.st {Z : Addr → Prop} {y : Addr} {h₀ h : Heap} {it i k} (hy : h.get? y = none) (o : RIt h₀ Z h it i k) : RIt h₀ (Zx Z y) h it i k := ⟨⟨o.z, by rintro rfl; have := o.o; unfold IsRangeIter at this; rw [hy] at this; cases this⟩, o.n, o.o⟩
theorem Ol.wd {Z : Addr → Prop} {h₀ h : Heap} {x its u} (o : Ol Z h₀ h x its) (hi : Ints its u) : Wd Z h u x := let ⟨z, _, n, e⟩ := o; ⟨z, _, n, e, by simpa using hi⟩
section
variable {prog : Program} {w : World} {A : Around} {E : Value → Shared → Prop} {h : Heap} {g : Array GenState} {d : Drawn} {t : Nat} {os : OsState} {env : Env} {Z : Addr → Prop} {h₀ : Heap} {L : Addr} {m : Str → Option Value} {M : Model}
theorem nmC {x : Str} {pos : Pos} {v : Value} {a c : Addr} {Q : Value → Shared → Prop} (I : EI w.params a L env) (hc : env.cells.lookup x = some c) (cl : CL Z h c v) (hq : Q v ⟨h, g, d, t, os⟩)
    (hl : (fdOf w.params a).scope.names.lookup x = some .cell) (hd : (x == ("__debug__" : Str)) = false) : wpAny M A (eval (.Name x pos) env) Q E ⟨h, g, d, t, os⟩ :=
  wpAny_Name (s := ⟨h, g, d, t, os⟩) (wpAny_loadName_cell I.kd (I.ko hl) hc cl.is hq) hd
theorem callE {f : Addr} {fd : FuncData} {params : Arguments} {body : Expr} {scope : Scope} {clo : List (Str × Addr)} {q : Str} {args : List Value} {binds : List (Str × Value)} {Q : Value → Shared → Prop} (G : Gd w.params h) (hz : ∀ b, h.objs.size ≤ b → Z b)
   (ho : h.get? f = some { cls := .type "function", data := .func fd }) (D : FE h fd params body scope clo q) (hroom : A.depth < recursionLimit) (hbind : BindsTo ⟨h, g, d, t, os⟩ fd ⟨args, []⟩ binds)
   (hloc : binds.all (fun x => decide (scope.names.lookup x.1 = some .local)) = true) (hcell : scope.names.all (fun x => x.2 != .cell) = true) (hk : scope.kind = .function) (hco : scope.isCoroutine = false) (hgen : scope.isGenerator = false)
   (hq : ∀ h₁ L, Fx w.params Z h L h₁ (fun x => binds.reverse.lookup x) → Lk Z h h₁ → (∀ b o, h.get? b = some o → h₁.get? b = some o) → ∀ t' env, ED scope clo L env →
     wpAny (model prog w) (A.deeper env) (eval body env) Q (fun _ _ => False) ⟨h₁, g, d, t', os⟩) :
   wpAny (model prog w) A (call (.ref f) args) Q E ⟨h, g, d, t, os⟩ := by
  obtain ⟨p1, p2, p3, p4, p5, p6, p7, p8, ⟨mm, p9, p10⟩⟩ := D
  subst p3 p6
  have hcd : h.CodeRec fd.code fd.qualname := by rw [p9, p7]; exact p10.rec
  refine wpAny_call (kla_callFunE hroom ho rfl hco hgen p2 hcd ?_)
  refine hbind _ _ _ _ (wpAny_newFunctionEnv (fun x hx => by simpa using List.all_eq_true.mp hcell x hx) (locs hloc) (fun h₁ hns hsb => ⟨(noLim G.k).fresh _ hsb, ?_⟩) hk)
  have K : ∀ b o, h.get? b = some o → h₁.get? b = some o := fun b o e => hsb.extBut b o (Nat.ne_of_lt (Heap.lt_size e)) (Heap.get?_push_of_some _ e)
  have N : h₁.Ns h.objs.size (fun x => binds.reverse.lookup x) := hns
  have hsz : h.objs.size ≤ h₁.objs.size := Nat.le_of_lt N.lt
  exact kla_codeExpr (wpAny_mono (hq h₁ h.objs.size ⟨N, G.k, G.t.nd fun b o e _ _ => K b o e, .of K hsz, Heap.get?_none_of_le (Nat.le_refl _), Nat.le_refl _, h.objs.size, .inl rfl, fun b hb => hz b (Nat.le_of_lt hb)⟩ (fun b o _ e _ => K b o e) K _ _
    ⟨hk, p4, p5, rfl, fun e => e, rfl⟩) (fun _ _ x => x) fun _ _ z => z.elim)
theorem w_lam {f c l : Addr} {fd : FuncData} {params : Arguments} {scope : Scope} {q : Str} {p1 p2 p3 p4 p5 p6 p7 : Pos} {e : W} {i j : Nat} {ti tj : Tok} {Q : Value → Shared → Prop} (G : Gd w.params h) (hz : ∀ b, h.objs.size ≤ b → Z b)
   (ho : h.get? f = some { cls := .type "function", data := .func fd })
   (D : FE h fd params (.BinOp (.Subscript (.Name (Str.ofString "ends") p1) (.Name (Str.ofString "p") p2) p3) .Sub (.Subscript (.Name (Str.ofString "ends") p4) (.Name (Str.ofString "q") p5) p6) p7) scope [(Str.ofString "ends", c)] q)
   (cl : CL Z h c (.ref l)) (hw : Wd Z h e l) (hi : i < e.length) (hj : j < e.length) (hlen : e.length ≤ 1000) (hd : A.depth < 950)
   (hb : ∀ (fd : FuncData) (x y : Value), fd.params = params → fd.defaults = .none → bindArgs fd ⟨[x, y], []⟩ = pure [(Str.ofString "p", x), (Str.ofString "q", y)])
   (l1 : scope.names.lookup (Str.ofString "p") = some .local) (l2 : scope.names.lookup (Str.ofString "q") = some .local) (l3 : scope.names.lookup (Str.ofString "ends") = some .free)
   (hcell : scope.names.all (fun x => x.2 != .cell) = true) (hk : scope.kind = .function) (hco : scope.isCoroutine = false) (hgen : scope.isGenerator = false)
   (hq : ∀ h' tk tk', Evo h h' → Tb h' → Q (.int (e.getD i 0 - e.getD j 0) tk) ⟨h', g, d, tk', os⟩) :
   wpAny (model prog w) A (call (.ref f) [.int i ti, .int j tj]) Q E ⟨h, g, d, t, os⟩ := by
  have hR : recursionLimit = 1000 := rfl
  have gi : ∀ k (hk : k < e.length), e.getD k 0 = e[k] := fun k hk => by simp [List.getD_eq_getElem?_getD, hk]
  refine callE G hz ho D (by lia) (.of_eq (hb _ _ _ D.pa D.de)) (by simp [l1, l2]) hcell hk hco hgen fun h₁ L F K keep t' env I => ?_
  have cl1 := cl.lk K
  have w1 := hw.lk K
  have nf : ∀ pos Q E t, Q (.ref l) ⟨h₁, g, d, t, os⟩ → wpAny (model prog w) (A.deeper env) (eval (.Name (Str.ofString "ends") pos) env) Q E ⟨h₁, g, d, t, os⟩ := fun pos Q E t hq => dFree I l3 rfl cl1.is (by kernel_rfl) (by kernel_rfl) hq
  refine wpAny_BinOp ?_
  refine sub_idx F (nf _ _ _ _ (dLoc F.ns I rfl l1 (by kernel_rfl) ⟨l, rfl, .inl ⟨e, w1⟩, get_w w1 i hi (.inl rfl) (fun tk => ?_) (by lia)⟩)) (fun _ _ => rfl) (fun _ _ => rfl)
  refine sub_idx F (nf _ _ _ _ (dLoc F.ns I rfl l2 (by kernel_rfl) ⟨l, rfl, .inl ⟨e, w1⟩, get_w w1 j hj (.inl rfl) (fun tk' => ?_) (by lia)⟩)) (fun _ _ => rfl) (fun _ _ => rfl)
  refine sub_i ?_
  have := hq h₁ t' (t' + 1) F.ev F.tb
  rw [gi i hi, gi j hj] at this
  exact this
theorem nin_o {x : Addr} {its : List Value} {u : W} {i : Int} {ti : Tok} {Q : Value → Shared → Prop} (o : Ol Z h₀ h x its) (hi : Ints its u) (hq : Q (.bool (!u.any (· == i))) ⟨h, g, d, t, os⟩) :
    wpAny (model prog w) A (compareOp .NotIn (.int i ti) (.ref x)) Q E ⟨h, g, d, t, os⟩ := by
  obtain ⟨_, _, n, a⟩ := o
  exact notin_list_ints (s := ⟨h, g, d, t, os⟩) (IsL.isList a) hi.are hq
theorem list_rg {r : Addr} {k : Nat} {Q : Value → Shared → Prop} (F : Fx w.params Z h₀ L h m) (hr : Rg Z h r k) (hh : A.handled = none) (hk : k ≤ 100000)
    (hq : ∀ h' c tk, Fx w.params Z h₀ L h' m → Lk Z h h' → Wd Z h' ((List.range k).map Int.ofNat) c → h.get? c = none → Q (.ref c) ⟨h', g, d, tk, os⟩) : wpAny (model prog w) A (call (.type "list") [.ref r]) Q E ⟨h, g, d, t, os⟩ := by
  obtain ⟨a, b, c, x⟩ := hr
  have e : Builtin.Range.rangeSize 0 k 1 = k := by rw [rangeSize_one]; split <;> lia
  refine call_list_range (s := ⟨h, g, d, t, os⟩) (n := k) hh x (small_one (by decide) (by decide) (by lia) (by lia)) e (by lia) fun h' tk acc c' keep hS hacc => ?_
  obtain ⟨F', K'⟩ := F.keep keep (Nat.le_of_lt (Heap.lt_size hS))
  refine hq h' _ tk F' K' ⟨F.zf _ (Nat.le_refl _), acc, c', hS, ints_of _ _ (by rw [Array.length_toList, hacc.1]; simp) fun i hi => ?_⟩ (Heap.get?_none_of_le (Nat.le_refl _))
  have hi' : i < k := by simpa using hi
  have hia : i < acc.size := by rw [hacc.1]; exact hi'
  obtain ⟨t, ht⟩ := hacc.2 i acc[i] (Array.getElem?_eq_getElem hia)
  refine ⟨t, ?_⟩
  rw [Array.getElem?_toList, Array.getElem?_eq_getElem hia, ht]
  simp
end
end Mine
end

section
-- part U13
open PySem PySem.W PyProof.Rows
set_option maxRecDepth 100000
set_option maxHeartbeats 1000000
namespace Mine
theorem Ints.rep {items : Array Value} {u : W} (x : Ints items.toList u) : ∀ n, Ints (List.foldl (fun x1 x2 => x1 ++ x2) #[] (List.replicate n items)).toList (List.replicate n u).flatten := by
  have key : ∀ (n : Nat) (acc : Array Value) (v : W), Ints acc.toList v → Ints (List.foldl (fun x1 x2 => x1 ++ x2) acc (List.replicate n items)).toList (v ++ (List.replicate n u).flatten) := by
    intro n
    induction n with
    | zero => intro acc v h; simpa using h
    | succ n ih =>
      intro acc v h
      rw [List.replicate_succ, List.foldl_cons, List.replicate_succ, List.flatten_cons, ← List.append_assoc]
      refine ih _ _ ?_
      rw [Array.toList_append]
      exact h.append x
  intro n
  have := key n #[] [] .nil
  simpa using this
/-- a list that was handed in -/
def Wl (Z : Addr → Prop) (h : Heap) (u : W) (l : Addr) : Prop := Z l ∧ ∃ o items n, h.get? l = some o ∧ o.cls = .type "list" ∧ o.data = .seq items n ∧ Ints items.toList u
theorem Wl.lk {Z : Addr → Prop} {h h' : Heap} {u : W} {l : Addr} (k : Lk Z h h') (x : Wl Z h u l) : Wl Z h' u l := let ⟨z, o, items, n, a, b, c, e⟩ := x; ⟨z, o, items, n, k _ _ z a ⟨(fun _ _ q => by rw [c] at q; cases q), .inl fun q => by rw [b] at q; cases q⟩, b, c, e⟩
theorem Wl.isList {Z : Addr → Prop} {h : Heap} {u : W} {l : Addr} (x : Wl Z h u l) : ∃ items, h.IsList l items ∧ Ints items.toList u := let ⟨_, o, items, n, a, b, c, e⟩ := x; ⟨items, ⟨o, a, b, n, c⟩, e⟩
theorem rep_len (u : W) : ∀ n, (List.replicate n u).flatten.length = n * u.length
  | 0 => by simp
  | n + 1 => by rw [List.replicate_succ, List.flatten_cons, List.length_append, rep_len u n, Nat.succ_mul]; lia
section
variable {prog : Program} {w : World} {A : Around} {E : Value → Shared → Prop} {h : Heap} {g : Array GenState} {d : Drawn} {t : Nat} {os : OsState} {env : Env} {Z : Addr → Prop} {h₀ : Heap} {L : Addr} {m : Str → Option Value} {M : Model}
theorem mod_i {a b : Int} {tk tk' : Tok} {Q : Value → Shared → Prop} (hq : Q (.int (a.fmod b) t) ⟨h, g, d, t + 1, os⟩) (hb : b ≠ 0) : wpAny (model prog w) A (binaryOp .Mod (.int a tk) (.int b tk')) Q E ⟨h, g, d, t, os⟩ := mod_int (s := ⟨h, g, d, t, os⟩) hb hq
theorem sum_w {v : W} {a : Addr} {Q : Value → Shared → Prop} (F : Fx w.params Z h₀ L h m) (hu : Wl Z h v a) (hh : A.handled = none) (hq : ∀ h' tk tk', Fx w.params Z h₀ L h' m → Lk Z h h' → Q (.int v.sum tk) ⟨h', g, d, tk', os⟩) :
    wpAny (model prog w) A (call (.builtin "sum") [.ref a]) Q E ⟨h, g, d, t, os⟩ := by
  obtain ⟨items, x, y⟩ := hu.isList
  have ha := y.are
  obtain ⟨xs, e⟩ := (show AllInts items from by have := ha.allInts; simpa using this).items
  subst e
  refine sum_intListG (s := ⟨h, g, d, t, os⟩) hh x fun h' tk t' hk => ?_
  obtain ⟨F', K'⟩ := F.keepN hk
  have e2 := ha.numsOf
  have e3 : (preSum (numAt xs) xs.size : Int) = v.sum := by
    rw [← e2, nums_intItems, preSum_eq, List.take_of_length_le (by simp)]
  rw [e3]
  exact hq _ _ _ F' K'
theorem slcl {v : W} {l : Addr} {value : Expr} {k : Nat} {p2 p pos : Pos} {Q : Value → Shared → Prop} (F : Fx w.params Z h₀ L h m) (hu : Wl Z h v l) (hlen : v.length ≤ 100000)
    (hn : ∀ Q E, Q (.ref l) ⟨h, g, d, t, os⟩ → wpAny (model prog w) A (eval value env) Q E ⟨h, g, d, t, os⟩) (ht : ∀ o r, letTemporaryGo value o r = pure ())
    (hq : ∀ h' c, Fx w.params Z h₀ L h' m → Lk Z h h' → Wd Z h' (v.take 11) c → Q (.ref c) ⟨h', g, d, t + 1, os⟩) :
    wpAny (model prog w) A (eval (.Subscript value (.Slice none (some (.Constant (.int 11) k p2)) none p) pos) env) Q E ⟨h, g, d, t, os⟩ := by
  obtain ⟨items, x, y⟩ := hu.isList
  have e := y.length
  rw [Array.length_toList] at e
  refine wpAny_Subscript_list_slice (hn _ _ (ev_none (ev_some (k_int ?_)))) ht
  refine ⟨l, items, none, some 11, rfl, x, by rw [e]; exact Nat.le_trans hlen (by decide), .none, .int 11 t, ?_⟩
  obtain ⟨F1, k1⟩ := F.push { cls := .type "slice", data := .fields #[.none, .int 11 t, .none] }
  obtain ⟨F2, k2⟩ := F1.push { cls := .type "list", data := .seq (slicePick items none (some 11) none) }
  have hc : h.objs.size + 1 = (h.push { cls := .type "slice", data := .fields #[.none, .int 11 t, .none] }).objs.size := by rw [Heap.size_push]
  refine hq _ _ F2 (fun b o zb e hd => k2 b o zb (k1 b o zb e hd) hd) ?_
  show Wd Z _ _ (h.objs.size + 1)
  rw [hc]
  refine .new F1.zf ?_
  rw [pick_le _ _ _ (.inl rfl), e]
  have e2 : (v.take (phi (some 11) v.length)).drop (plo none v.length) = v.take 11 := slc_upto v 11
  rw [← e2]
  exact (y.take _).drop _
/-- a slice of what has just been made -/
theorem subT {value : Expr} {lo hi : Option Expr} {p pos : Pos} {Q : Value → Shared → Prop} {s : Shared}
    (h : wpAny (model prog w) A (eval value env) (fun o s₁ => wpAny (model prog w) A (eval (.Slice lo hi none p) env) (fun i s₂ => s₂.TypeIs o "list" ∧ wpAny (model prog w) A (getItem o i) Q E s₂) E s₁) E s) :
    wpAny (model prog w) A (eval (.Subscript value (.Slice lo hi none p) pos) env) Q E s := by
  rw [eval_Subscript]
  refine wpAny_bind (wpAny_mono h (fun o s₁ h₁ => wpAny_bind (wpAny_holding (wpAny_mono h₁ (fun i s₂ h₂ => wpAny_bind (wpAny_standAt ?_)) fun _ _ x => x))) fun _ _ x => x)
  have fin : wpAny (model prog w) A (operate [i, o] (getItem o i)) (fun r s₃ => wpAny (model prog w) A (letTemporaryGo value o r >>= fun _ => pure r) Q E s₃) E s₂ :=
    wpAny_operating (wpAny_mono h₂.2 (fun r s₃ h₃ => wpAny_bind (wpAny_letTemporaryGo (wpAny_pure h₃))) fun _ _ x => x)
  refine wpAny_bind ?_
  rw [getitemInPython_of_ne h₂.1.not_modules]
  refine wpAny_bind (wpAny_specialOf h₂.1 list_getitem_lookup ?_)
  first
    | exact wpAny_pure (wpAny_bind fin)
    | exact wpAny_bind (wpAny_pure (wpAny_bind fin))
    | exact wpAny_bind fin
theorem w_lamT {f l : Addr} {fd : FuncData} {params : Arguments} {scope : Scope} {q : Str} {k1 k2 : Nat} {p1 p2 p3 p4 p5 p6 : Pos} {u : W} {Q : Value → Shared → Prop} (G : Gd w.params h) (hz : ∀ b, h.objs.size ≤ b → Z b)
   (ho : h.get? f = some { cls := .type "function", data := .func fd })
   (D : FE h fd params (.Subscript (.BinOp (.Name (Str.ofString "turn") p1) .Mult (.Constant (.int 24) k1 p2) p3) (.Slice none (some (.Constant (.int 24) k2 p4)) none p5) p6) scope [] q)
   (hw : Wd Z h u l) (hne : u ≠ []) (hlen : u.length ≤ 1000) (hd : A.depth < 950)
   (hb : ∀ (fd : FuncData) (x : Value), fd.params = params → fd.defaults = .none → bindArgs fd ⟨[x], []⟩ = pure [(Str.ofString "turn", x)])
   (l1 : scope.names.lookup (Str.ofString "turn") = some .local)
   (hcell : scope.names.all (fun x => x.2 != .cell) = true) (hk : scope.kind = .function) (hco : scope.isCoroutine = false) (hgen : scope.isGenerator = false)
   (hq : ∀ h' tk r, Evo h h' → Tb h' → Wd Z h' (pre 24 u) r → Q (.ref r) ⟨h', g, d, tk, os⟩) :
   wpAny (model prog w) A (call (.ref f) [.ref l]) Q E ⟨h, g, d, t, os⟩ := by
  have hR : recursionLimit = 1000 := rfl
  refine callE G hz ho D (by lia) (.of_eq (hb _ _ D.pa D.de)) (by simp [l1]) hcell hk hco hgen fun h₁ L F K keep t' env I => ?_
  obtain ⟨z1, items, n, x, y⟩ := hw.lk K
  have ylen := y.length
  rw [Array.length_toList] at ylen
  have hem : items.isEmpty = false := by
    cases q : items.isEmpty with
    | false => rfl
    | true =>
      rw [Array.isEmpty_iff_size_eq_zero, ylen] at q
      exact absurd (List.length_eq_zero_iff.mp q) hne
  refine subT (wpAny_BinOp (dLoc F.ns I rfl l1 (by kernel_rfl) (k_int ?_)))
  refine mul_list (s := ⟨h₁, g, d, t' + 1, os⟩) (h₀ := h) (L := L) (news := []) (k := n) ⟨F.ns, keep, F.ls⟩ .nil x (by decide) (by decide) (by rw [ylen]; show _ * 24 ≤ _; lia) fun h2 F2 N2 => ?_
  have e2 := (N2 _ (.head _)).1
  rw [hem] at e2
  dsimp only at e2
  have e24 : (if false = true then 0 else (24 : Int).toNat) = 24 := rfl
  rw [e24] at e2
  have r2 := y.rep 24
  have l3 : (List.replicate 24 u).flatten.length = 24 * u.length := rep_len u 24
  generalize List.foldl (fun x1 x2 => x1 ++ x2) #[] (List.replicate 24 items) = its2 at e2 r2
  have l2 := r2.length
  rw [Array.length_toList] at l2
  have hIL : h2.IsList h₁.objs.size its2 := ⟨_, e2, rfl, 0, rfl⟩
  refine wpAny_Slice (ev_none (ev_some (k_int (ev_none ?_))))
  refine ⟨(hIL.push _).typeIs, wpAny_getItem_list_slice (hIL.push _) (Heap.IsSliceOf.new ..) .none (.int 24 (t' + 1)) .none (by simp) ?_ (by rw [l2, l3, sizeLine_eq]; lia)⟩
  have k3 : ∀ b o, h.get? b = some o → ((h2.push { cls := .type "slice", data := .fields #[.none, .int 24 (t' + 1), .none] }).push { cls := .type "list", data := .seq (slicePick its2 none (some 24) none) }).get? b = some o := fun b o e => Heap.get?_push_of_some _ (Heap.get?_push_of_some _ (F2.keep b o e))
  have hsz : h.objs.size ≤ h2.objs.size := Nat.le_of_lt (Nat.lt_of_le_of_lt F2.above F2.ns.lt)
  have hs3 : (h2.push { cls := .type "slice", data := .fields #[.none, .int 24 (t' + 1), .none] }).objs.size = h2.objs.size + 1 := Heap.size_push ..
  refine hq _ _ _ (.of k3 (by show h.objs.size ≤ ((h2.push _).push _).objs.size; rw [Heap.size_push, hs3]; lia)) (G.t.nd fun b o e _ _ => k3 b o e) ⟨hz _ (by show h.objs.size ≤ (h2.push _).objs.size; rw [hs3]; lia), _, 0, Heap.get?_push_size _ rfl, ?_⟩
  have hkey : pre 24 u = (List.replicate 24 u).flatten.take 24 := (keyF_eq hne (Nat.le_refl 24)).symm
  generalize (List.replicate 24 u).flatten = big at r2 l2 l3 hkey
  rw [pick_le _ _ _ (.inl rfl), hkey, l2]
  have h24 : 24 ≤ big.length := by
    rw [l3]
    have : u.length ≠ 0 := fun q => hne (List.length_eq_zero_iff.mp q)
    lia
  have ep : phi (some 24) big.length = 24 := by
    show (if (24 : Int) < 0 then ((24 : Int) + (big.length : Int)).toNat else min (24 : Int).toNat big.length) = 24
    rw [if_neg (by decide)]
    exact Nat.min_eq_left h24
  rw [ep]
  exact r2.take 24
/-- keys that are lists -/
def KL (Z : Addr → Prop) (h : Heap) (k : Value) (u : W) : Prop := ∃ l, k = .ref l ∧ Wd Z h u l ∧ ¬ isTab l
theorem nt_w {Z : Addr → Prop} {h : Heap} {u : W} {l : Addr} (T : Tb h) (x : Wd Z h u l) : ¬ isTab l := fun ht => by
  obtain ⟨_, items, n, e, _⟩ := x
  obtain ⟨vs, q⟩ := T.none ht
  have q2 := e.symm.trans q
  cases q2
theorem sc_L {B : Around} {q : Addr} {vs : List Value} {ξ : Nat → W} (hu : B.units < 8000)
   (key : ∀ Z h' i v, (∀ b o, h.get? b = some o → Z b) → (∀ b, h'.objs.size ≤ b → Z b) → Evo h h' → Tb h' → vs[i]? = some v → ∀ t E Q, (∀ h'' tk r, Evo h' h'' → Tb h'' → Wd Z h'' (ξ i) r → Q (.ref r) ⟨h'', g, d, tk, os⟩) → wpAny (model prog w) B (call (.ref q) [v]) Q E ⟨h', g, d, t, os⟩) :
   Sc prog w B KL ξ (fun i j => llt (ξ i) (ξ j)) oneType' vs q h g d os where
  sw := SW_key ξ
  stab := fun {Z h1 h2 k x} kz hk => by
    obtain ⟨l, e, ⟨z, items, n, a, b⟩, nt⟩ := hk
    exact ⟨l, e, ⟨z, items, n, kz _ _ z a nt, b⟩, nt⟩
  key := fun Z h' i v hz0 hz V T' hv t E Q hq => key Z h' i v hz0 hz V T' hv t E Q fun h'' tk r V2 T2 W => hq h'' tk _ V2 T2 ⟨r, rfl, W, nt_w T2 W⟩
  less := fun Z h' i j k k' hz0 hz V T' hk hk' t E Q hq => by
    obtain ⟨l, rfl, w1, _⟩ := hk
    obtain ⟨l', rfl, w2, _⟩ := hk'
    rw [keyLt'_oneType, oneLt'_eq]
    simp only [if_true]
    refine wpAny_bind (wpAny_cRoomFor (show B.units < cLine by show B.units < 9900; lia) ?_)
    obtain ⟨_, items, n, e, _⟩ := id w1
    refine wpAny_bind (wpAny_callSpecialIfBound?_slot (list_typeIs (s := ⟨h', g, d, t, os⟩) e) PySem.F.slot_list_lt (clt_w w1 w2 ?_))
    exact wpAny_truthy_bool (hq h' t (.rfl' h') T')
  kind := fun Z h' keys h2 hk t E Q hq => by
    refine kas_kind (T := .type "list") h2 (fun k hkm => ?_) (by decide) (by decide) hq
    obtain ⟨i, hi⟩ := List.getElem?_of_mem hkm
    obtain ⟨l, rfl, ⟨_, items, n, e, _⟩, _⟩ := hk i k hi
    exact (Looks.ld e).andThen .now
end
end Mine
end

section
open PySem PySem.W PyProof.Rows
set_option maxRecDepth 100000
set_option maxHeartbeats 4000000
namespace Mine
local macro_rules | `(tactic| walk_at "k") => `(tactic| (first
  | with_reducible assumption
  | with_reducible exact Lk.sub (by assumption)
  | with_reducible exact Lk.sub (Lk.sub (by assumption))
  | with_reducible exact Lk.sub2 (by assumption)))
local macro_rules | `(tactic| walk_at "c") => `(tactic| (first
  | with_reducible assumption
  | with_reducible exact Lc.sub (by assumption)
  | with_reducible exact Lc.sub (Lc.sub (by assumption))))
local macro_rules | `(tactic| x_close) => `(tactic| (first | with_reducible assumption | ((with_reducible first | refine' Wl.lk ?k ?x | refine' CL.lk ?k ?x | refine' Items.lk ?k ?x | refine' Ol.lk ?k ?x | refine' Wd.lk ?k ?x | refine' Wds.lk ?k ?x | refine' WIt.lk ?k ?x | refine' WsIt.lk ?k ?x | refine' RIt.lk ?k ?x); (case k => walk_at "k"); (case x => x_close)) | ((with_reducible first | refine' Items.lcL ?k ?x | refine' Ol.lcL ?k ?x | refine' Wd.lcL ?k ?x | refine' Wds.lcL ?k ?x); (case k => walk_at "c"); (case x => x_close)) | ((with_reducible first | refine' CL.lcR ?k ?x | refine' Items.lcR ?k ?x | refine' Ol.lcR ?k ?x | refine' Wd.lcR ?k ?x | refine' Wds.lcR ?k ?x | refine' WsIt.lcR ?k ?x); (case k => walk_at "c"); (case x => x_close)) | fail))
local macro_rules | `(tactic| walk_at "sz") => `(tactic| (first
  | lia
  | (with_reducible refine two_fl (by assumption) (by assumption) (by assumption))
  | (simp only [List.length_append, List.length_cons, List.length_nil, List.length_take, List.length_drop] <;> lia)))
local macro_rules | `(tactic| walk_at "room") => `(tactic| (first
  | assumption
  | (show _ + 3 < 9900; lia)
  | (show _ + 3 < _; lia)
  | (show _ + 1 < _; lia)
  | lia))
local macro_rules | `(tactic| walk_at "go") => `(tactic| (first
  | (with_reducible first
    | refine PySem.wpAny_bind ?_
    | refine PySem.wpAny_pure ?_
    | refine PySem.wpAny_holding ?_
    | refine PySem.wpAny_standAt ?_
    | refine PySem.wpAny_point ?_
    | refine PySem.wpAny_letGo ?_
    | refine PySem.wpAny_rule ?_
    | refine PySem.Calls.wpAny_keep ?_
    | refine wpAny_execs_cons ?_
    | refine wpAny_execs_nil ?_
    | refine pif ?_
    | refine pit ?_
    | refine wpAny_If ?_
    | refine wpAny_Return_some ?_
    | refine wpAny_UnaryOp ?_
    | refine wpAny_BinOp ?_
    | refine k_int ?_
    | refine wpAny_Call_NameR ?_
    | refine wpAny_While ?_
    | refine wpAny_isTrue_BoolOp ?_
    | refine wpAny_allTrue_And_cons ?_
    | refine wpAny_allTrue_And_nil ?_
    | refine ev_none ?_
    | refine ev_some ?_)
  | ((with_reducible first | refine' wpAny_For ?_ ?h | refine' slc (by assumption) ?_ ?h | refine' sub_idx (by assumption) ?_ ?h ?k); (case h => intros; rfl); try (case k => intros; rfl))
  | ((with_reducible first | refine' wpAny_Assign_Name ?_ ?h | refine' wpAny_isTrue_value ?_ ?h | refine' list1 (by assumption) ?h ?_ | refine' exF (by assumption) ?_ ?h | refine' srC (by assumption) (by assumption) ?_ (by kernel_rfl) ?h); (case h => rfl))
  | ((with_reducible first | refine' wpAny_Compare1 ?_ ?h | refine' wpAny_isTrue_Compare1 ?_ ?h); (case h => with_unfolding_all rfl))
  | ((with_reducible refine' stF (by assumption) (by assumption) ?_ (by kernel_rfl)); intro _ _ _)
  | ((with_reducible refine' apC ?_ ?hb ?hl ?ht); (case hb => rfl); (case hl => rfl); (case ht => rfl))
  | ((with_reducible refine' list0 (by assumption) ?_); intro _ _ _ _ _ _ _ _ _)
  | ((with_reducible refine' ⟨_, _, _, _, rfl, ?h, ?_⟩); (case h => x_close))
  | ((with_reducible refine' ⟨_, rfl, ?h, ?_⟩); (case h => first | exact Or.inl ⟨_, by x_close⟩ | exact Or.inr ⟨_, by x_close⟩ | fail))
  | ((with_reducible refine' Or.inl ⟨_, _, rfl, _, (by assumption), ?_⟩); intros)
  | ((with_reducible refine' Or.inr ⟨_, _, rfl, ?x, _, (by assumption), ?_⟩); (case x => x_close); intros)
  | ((with_reducible refine' ⟨_, _, _, _, rfl, (by first | exact Part.none | exact Part.int _ _ | fail), (by first | exact Part.none | exact Part.int _ _ | fail), (by first | exact Or.inl rfl | exact Or.inr rfl | fail), (by assumption), ?_⟩); (first | ((with_reducible refine' Or.inl ⟨_, ?x, ?z, ?_⟩); (case x => x_close)) | ((with_reducible refine' Or.inr ⟨_, ?x, ?z, ?_⟩); (case x => x_close))); (case z => walk_at "sz"); intros)
  | ((with_reducible refine' nmC (by assumption) (by assumption) ?x ?_ ?k ?l); (case x => x_close); (case k => kernel_rfl); (case l => kernel_rfl))
  | ((with_reducible refine' nmL (by assumption) (by assumption) ?h ?_ ?l ?d); (case h => first | exact rfl | assumption); (case l => kernel_rfl); (case d => kernel_rfl))
  | (with_reducible first
    | refine' nmG (by assumption) (by assumption) (by first | exact gl_lfg _ | exact gl_gfl _ | exact gl_ctk _ | exact gl_red _ | exact gl_join _ | exact gl_cut _ | exact gl_endl _ | exact gl_turns _ | exact gl_ends _ | exact gl_back _ | exact gl_miss _ | fail) ?_ (by kernel_rfl) (by kernel_rfl)
    | refine' nmB (by assumption) (by assumption) (by first | exact gm_type _ | exact gm_ni _ | exact gm_iter _ | exact gm_len _ | exact gm_range _ | exact gm_list _ | exact gm_sorted _ | exact gm_sum _ | exact gm_object _ | fail) (by first | exact gb_type _ | exact gb_ni _ | exact gb_iter _ | exact gb_len _ | exact gb_range _ | exact gb_list _ | exact gb_sorted _ | exact gb_sum _ | exact gb_object _ | fail) ?_ (by kernel_rfl) (by kernel_rfl))
  | ((with_reducible first | refine' ga_ge' ?_ | refine' ga_lt' ?_); intro _)
  | (with_reducible refine PySem.wpAny_of_eq tl_list_ga ?_)
  | ((with_reducible show wpAny _ _ (call (.type _) _ _) _ _ _); (first | show wpAny _ _ (call _ [_]) _ _ _); (first
    | ((with_reducible refine' list_rg (by assumption) (by assumption) ?a ?z ?_); (case a => assumption); (case z => walk_at "sz"))
    | ((with_reducible refine' range_new (by assumption) ?o ?_); (case o => lia))
    | ((with_reducible refine' type_w ?x ?_); (case x => x_close))); intros)
  | ((with_reducible show wpAny _ _ (call (.builtin _) _ _) _ _ _); (first | show wpAny _ _ (call _ [_]) _ _ _ | show wpAny _ _ (call _ [_, _]) _ _ _); (first
    | ((with_reducible first | refine' cge_w ?x ?y ?_ | refine' clt_w ?x ?y ?_); (case x => x_close); (case y => x_close))
    | ((with_reducible first | refine' app_w (by assumption) ?x ?z ?_ | refine' len_w ?x ?_ ?z); (case x => x_close); (case z => walk_at "sz"))
    | ((with_reducible refine' len_ws ?x ?_ ?z); (case x => x_close); (case z => walk_at "sz"))
    | ((with_reducible refine' iter_w (by assumption) ?x ?_); (case x => x_close))
    | ((with_reducible refine' sum_w (by assumption) ?x ?a ?_); (case x => x_close); (case a => assumption))); intros)
  | ((with_reducible refine' is_bool ?r ?_); (case r => rfl))
  | ((with_reducible first | refine' is_miss (by assumption) ?x ?_ | refine' pyIter_it ?x ?_); (case x => x_close))
  | ((with_reducible refine' ldf (by assumption) ?k ?_); (case k => kernel_rfl))
  | ((with_reducible refine' mod_i ?_ ?d); (case d => decide))
  | ((with_reducible refine' nin_o ?x ?a ?_); (case x => x_close); (case a => assumption))
  | (with_reducible first | refine P.gt_int ?_ | refine P.lt_int ?_ | refine P.ge_int ?_ | refine neg_i ?_ | refine sub_i ?_ | refine add_i ?_ | refine wpAny_truthy_bool ?_)
  | ((with_reducible refine' add_w (by assumption) ?x ?y ?_ ?z); (case x => x_close); (case y => x_close); (case z => walk_at "sz"); intros)
  | ((with_reducible refine' add_ws (by assumption) ?x ?y ?_ ?z); (case x => x_close); (case y => x_close); (case z => walk_at "sz"); intros)
  | ((with_reducible refine' pyIter_rg (by assumption) (by assumption) ?z ?_); (case z => walk_at "sz"); intros)
  | ((with_reducible refine' pyIter_wsx (by assumption) ?x ?y ?_); (case x => x_close); (case y => x_close); intros)
  | ((with_reducible refine' pyIter_w (by assumption) ?x ?_); (case x => x_close); intros)
  | ((with_reducible refine' get_ws_m ?x ?_ ?d ?n ?z); (case x => x_close); (case d => decide); (case n => walk_at "sz"); (case z => walk_at "sz"); intros)
  | ((with_reducible refine' get_ws_p ?x ?_ ?o ?n ?z); (case x => x_close); (case o => lia); (case n => walk_at "sz"); (case z => walk_at "sz"); intros)
  | ((with_reducible refine' get_w_m ?x ?_ ?d ?n ?z); (case x => x_close); (case d => decide); (case n => walk_at "sz"); (case z => walk_at "sz"); intros)
  | ((with_reducible refine' get_w_p ?x ?_ ?o ?n ?z); (case x => x_close); (case o => lia); (case n => walk_at "sz"); (case z => walk_at "sz"); intros)
  | ((with_reducible first | refine' eq_w ?x ?y ?h ?_ | refine' ne_w ?x ?y ?h ?_ | refine' lt_w ?x ?y ?h ?_); (case x => x_close); (case y => x_close); (case h => walk_at "room"))
  | ((with_reducible refine' ne_ws ?x ?y ?h ?_); (case x => x_close); (case y => x_close); (case h => walk_at "room"))
  | (with_reducible refine PySem.wpAny_ite_true (decide_eq_true canon_tga) ?_)
  | ((with_reducible refine' PySem.wpAny_ite_false ?h ?_); (case h => rfl))
  | ((with_reducible refine' PySem.wpAny_ite_true ?h ?_); (case h => rfl))
  | (with_reducible first | refine PySem.wpAny_fresh' ?_ | refine PySem.wpAny_attempt ?_)
  | ((with_reducible first | refine' PySem.wpAny_load' ?h ?_ | refine' PySem.wpAny_update' ?h ?_); (case h => heap_get; done))
  | wp_delta
  | ((with_reducible show wpAny _ _ (mkInt _) _ _ _); (with_reducible refine PySem.wpAny_mkInt' ?_))
  | (with_reducible_and_instances first | refine PySem.wpAny_pure ?_ | refine PySem.wpAny_bind ?_)))


section
-- part W1
section
variable {prog : Program} {w : World} {A : Around} {E : Value → Shared → Prop} {h : Heap} {g : Array GenState} {d : Drawn} {t : Nat} {os : OsState} {M : Model} {env : Env} {s : Shared} {Z : Addr → Prop}
theorem w_lfg {u v : W} {a b : Addr} (hu : Wd Z h u a) (hv : Wd Z h v b) {Q : Value → Shared → Prop} (G : Gd w.params h) (hz : ∀ b, h.objs.size ≤ b → Z b) (hd : A.depth < 890) (hA : A.units < 8900)
   (hq : ∀ h' tk, Evo h h' → Tb h' → Q (.bool (llt u v)) ⟨h', g, d, tk, os⟩) :
   wpAny (model prog w) A (call (.ref 28) [.ref a, .ref b]) Q E ⟨h, g, d, t, os⟩ := by
  have hR : recursionLimit = 1000 := rfl
  refine' fcallF (binds := [(Str.ofString "self", .ref a), (Str.ofString "other", .ref b)]) (Z := Z) G hz ?ho (by lia) ?hcd ?hbody ?hbind ?hloc ?hcell ?hk ?hco ?hgen ?hg ?hb ?hq
  case ho => kernel_rfl
  case hbody => exact rfl
  case hbind => (refine BindsTo.of_eq ?_; kernel_rfl)
  case hk => kernel_rfl
  case hco => kernel_rfl
  case hgen => kernel_rfl
  case hg => kernel_rfl
  case hb => kernel_rfl
  case hcell => kernel_rfl
  case hloc => kernel_rfl
  case hcd => exact ⟨27, objAt w.params 27, _, _, rfl, G.k 27 _ (by kernel_rfl), rfl, rfl⟩
  case hq =>
    intro h₁ L F K t₁ env I
    repeat walk_at "go"
    show Q (.bool (!!llt u v)) _
    rw [Bool.not_not]
    exact hq _ _ (Fx.ev (by assumption)) (Fx.tb (by assumption))
theorem c_lfg {h₀ : Heap} {L : Addr} {m : Str → Option Value} (F : Fx w.params Z h₀ L h m) {u v : W} {a b : Addr} (hu : Wd Z h u a) (hv : Wd Z h v b) {Q : Value → Shared → Prop} (hd : A.depth < 890) (hA : A.units < 8900)
   (hq : ∀ h' tk , Fx w.params Z h₀ L h' m → Lk Z h h' → Q (.bool (llt u v)) ⟨h', g, d, tk, os⟩) :
   wpAny (model prog w) A (call (.ref 28) [.ref a, .ref b]) Q E ⟨h, g, d, t, os⟩ :=
  w_lfg hu hv F.gd F.zf hd hA fun h' tk  e T => let ⟨a, b⟩ := F.evo e T; hq h' tk  a b
theorem w_gfl {u v : W} {a b : Addr} (hu : Wd Z h u a) (hv : Wd Z h v b) {Q : Value → Shared → Prop} (G : Gd w.params h) (hz : ∀ b, h.objs.size ≤ b → Z b) (hd : A.depth < 890) (hA : A.units < 8900)
   (hq : ∀ h' tk, Evo h h' → Tb h' → Q (.bool (!llt u v)) ⟨h', g, d, tk, os⟩) :
   wpAny (model prog w) A (call (.ref 21) [.ref a, .ref b]) Q E ⟨h, g, d, t, os⟩ := by
  have hR : recursionLimit = 1000 := rfl
  refine' fcallF (binds := [(Str.ofString "self", .ref a), (Str.ofString "other", .ref b)]) (Z := Z) G hz ?ho (by lia) ?hcd ?hbody ?hbind ?hloc ?hcell ?hk ?hco ?hgen ?hg ?hb ?hq
  case ho => kernel_rfl
  case hbody => exact rfl
  case hbind => (refine BindsTo.of_eq ?_; kernel_rfl)
  case hk => kernel_rfl
  case hco => kernel_rfl
  case hgen => kernel_rfl
  case hg => kernel_rfl
  case hb => kernel_rfl
  case hcell => kernel_rfl
  case hloc => kernel_rfl
  case hcd => exact ⟨20, objAt w.params 20, _, _, rfl, G.k 20 _ (by kernel_rfl), rfl, rfl⟩
  case hq =>
    intro h₁ L F K t₁ env I
    repeat walk_at "go"
    exact hq _ _ (Fx.ev (by assumption)) (Fx.tb (by assumption))
theorem c_gfl {h₀ : Heap} {L : Addr} {m : Str → Option Value} (F : Fx w.params Z h₀ L h m) {u v : W} {a b : Addr} (hu : Wd Z h u a) (hv : Wd Z h v b) {Q : Value → Shared → Prop} (hd : A.depth < 890) (hA : A.units < 8900)
   (hq : ∀ h' tk , Fx w.params Z h₀ L h' m → Lk Z h h' → Q (.bool (!llt u v)) ⟨h', g, d, tk, os⟩) :
   wpAny (model prog w) A (call (.ref 21) [.ref a, .ref b]) Q E ⟨h, g, d, t, os⟩ :=
  w_gfl hu hv F.gd F.zf hd hA fun h' tk  e T => let ⟨a, b⟩ := F.evo e T; hq h' tk  a b
end
end

section
-- part W2
section
variable {prog : Program} {w : World} {A : Around} {E : Value → Shared → Prop} {h : Heap} {g : Array GenState} {d : Drawn} {t : Nat} {os : OsState} {M : Model} {env : Env} {s : Shared} {Z : Addr → Prop}
theorem w_endl {u v : W} {a b : Addr} (hu : Wd Z h u a) (hv : Wd Z h v b) (hsz : u.length + v.length ≤ 10000) {Q : Value → Shared → Prop} (G : Gd w.params h) (hz : ∀ b, h.objs.size ≤ b → Z b) (hd : A.depth < 890) (hA : A.units < 8900)
   (hq : ∀ h' tk tk', Evo h h' → Tb h' → Q (.int (if u ++ v = v ++ u then 0 else if llt (u ++ v) (v ++ u) then -1 else 1) tk) ⟨h', g, d, tk', os⟩) :
   wpAny (model prog w) A (call (.ref 65) [.ref a, .ref b]) Q E ⟨h, g, d, t, os⟩ := by
  have hR : recursionLimit = 1000 := rfl
  refine' fcallF (binds := [(Str.ofString "u", .ref a), (Str.ofString "v", .ref b)]) (Z := Z) G hz ?ho (by lia) ?hcd ?hbody ?hbind ?hloc ?hcell ?hk ?hco ?hgen ?hg ?hb ?hq
  case ho => kernel_rfl
  case hbody => exact rfl
  case hbind => (refine BindsTo.of_eq ?_; kernel_rfl)
  case hk => kernel_rfl
  case hco => kernel_rfl
  case hgen => kernel_rfl
  case hg => kernel_rfl
  case hb => kernel_rfl
  case hcell => kernel_rfl
  case hloc => kernel_rfl
  case hcd => exact ⟨64, objAt w.params 64, _, _, rfl, G.k 64 _ (by kernel_rfl), rfl, rfl⟩
  case hq =>
    intro h₁ L F K t₁ env I
    repeat walk_at "go"
    refine pite (fun e => ?_) fun e => ?_
    · rw [if_pos (of_decide_eq_true e)] at hq
      repeat walk_at "go"
      exact hq _ _ _ (Fx.ev (by assumption)) (Fx.tb (by assumption))
    · rw [if_neg (of_decide_eq_false e)] at hq
      repeat walk_at "go"
      refine pite (fun e => ?_) fun e => ?_
      · rw [e, if_pos rfl] at hq
        repeat walk_at "go"
        exact hq _ _ _ (Fx.ev (by assumption)) (Fx.tb (by assumption))
      · rw [e, if_neg Bool.false_ne_true] at hq
        repeat walk_at "go"
        exact hq _ _ _ (Fx.ev (by assumption)) (Fx.tb (by assumption))
end
end

section
-- part W3
section
variable {prog : Program} {w : World} {A : Around} {E : Value → Shared → Prop} {h : Heap} {g : Array GenState} {d : Drawn} {t : Nat} {os : OsState} {M : Model} {env : Env} {s : Shared} {Z : Addr → Prop}
theorem w_join {ps : List W} {a : Addr} {c : Int} {k : Tok} (hu : Wds Z h ps a) (hlen : ps.length ≤ 1000) (hfl : ps.flatten.length ≤ 1000) {Q : Value → Shared → Prop} (G : Gd w.params h) (hz : ∀ b, h.objs.size ≤ b → Z b) (hd : A.depth < 880) (hA : A.units < 8800)
   (hq : ∀ h' tk r, Evo h h' → Tb h' → Wds Z h' (join ps c) r → Q (.ref r) ⟨h', g, d, tk, os⟩) :
   wpAny (model prog w) A (call (.ref 51) [.ref a, .int c k]) Q E ⟨h, g, d, t, os⟩ := by
  have hR : recursionLimit = 1000 := rfl
  refine' fcallF (binds := [(Str.ofString "parts", .ref a), (Str.ofString "letter", .int c k)]) (Z := Z) G hz ?ho (by lia) ?hcd ?hbody ?hbind ?hloc ?hcell ?hk ?hco ?hgen ?hg ?hb ?hq
  case ho => kernel_rfl
  case hbody => exact rfl
  case hbind => (refine BindsTo.of_eq ?_; kernel_rfl)
  case hk => kernel_rfl
  case hco => kernel_rfl
  case hgen => kernel_rfl
  case hg => kernel_rfl
  case hb => kernel_rfl
  case hcell => kernel_rfl
  case hloc => kernel_rfl
  case hcd => exact ⟨50, objAt w.params 50, _, _, rfl, G.k 50 _ (by kernel_rfl), rfl, rfl⟩
  case hq =>
    intro h₁ L F K t₁ env I
    repeat (first | ((with_reducible show wpAny _ _ (call (.ref _) _ _) _ _ _); (show wpAny _ _ (call _ [_, _]) _ _ _); ((with_reducible first | refine' c_lfg (by assumption) ?x ?y ?h ?i ?_ | refine' c_gfl (by assumption) ?x ?y ?h ?i ?_); (case x => x_close); (case y => x_close); (case h => walk_at "room"); (case i => walk_at "room")); intros) | walk_at "go")
    obtain ⟨I1, hI1⟩ := inv_of fun n s => ∀ Cc : Prop, (∀ hh tk m a ps', s = ⟨hh, g, d, tk, os⟩ → Fx w.params Z h L hh m → m (Str.ofString "parts") = some (.ref a) → Wds Z hh ps' a → ps'.length = n → 1 ≤ n → n ≤ 1001 → ps'.flatten.length ≤ 1001 → norm n ps' = join ps c → Cc) → Cc
    refine codeAny_whileLoop I1 ?_ (ps.length + 1) ?_
    · intro n s hs
      refine (hI1 _ _).1 hs _ fun hh tk m a' ps' er1 F' hm hps hn h1 h2 h3 h4 => ?_
      clear hs
      subst er1
      repeat (first | ((with_reducible show wpAny _ _ (call (.ref _) _ _) _ _ _); (show wpAny _ _ (call _ [_, _]) _ _ _); ((with_reducible first | refine' c_lfg (by assumption) ?x ?y ?h ?i ?_ | refine' c_gfl (by assumption) ?x ?y ?h ?i ?_); (case x => x_close); (case y => x_close); (case h => walk_at "room"); (case i => walk_at "room")); intros) | walk_at "go")
      refine pite (fun e => ?_) fun e => ?_
      · have e' := of_decide_eq_true e
        repeat (first | ((with_reducible show wpAny _ _ (call (.ref _) _ _) _ _ _); (show wpAny _ _ (call _ [_, _]) _ _ _); ((with_reducible first | refine' c_lfg (by assumption) ?x ?y ?h ?i ?_ | refine' c_gfl (by assumption) ?x ?y ?h ?i ?_); (case x => x_close); (case y => x_close); (case h => walk_at "room"); (case i => walk_at "room")); intros) | walk_at "go")
        rename_i i l1 hi ei w1 j l2 hj ej w2 h5 tk5 F5 K5
        have st := norm_step hn h4 hi hj ei ej
        refine pite (fun e2 => ?_) fun e2 => ?_
        · obtain ⟨s1, s2, s3⟩ := st.1 e2
          repeat (first | ((with_reducible show wpAny _ _ (call (.ref _) _ _) _ _ _); (show wpAny _ _ (call _ [_, _]) _ _ _); ((with_reducible first | refine' c_lfg (by assumption) ?x ?y ?h ?i ?_ | refine' c_gfl (by assumption) ?x ?y ?h ?i ?_); (case x => x_close); (case y => x_close); (case h => walk_at "room"); (case i => walk_at "room")); intros) | walk_at "go")
          rename_i i2 l3 hi2 ei2 w3 j2 l4 hj2 ej2 w4 _ _ _ _ _ _ _ _ _ _ _ _ _ _ _ _ _ _ _ _ _
          have e5 : i2 = i := by lia
          have e6 : j2 = j := by lia
          subst e5 e6
          exact ⟨n - 1, by lia, (hI1 _ _).2 fun _ q => q _ _ _ _ _ rfl (by assumption) rfl (by x_close) s2 (by lia) (by lia) (by rw [s3]; exact h3) s1⟩
        · have e3 := st.2 e2
          rw [e3] at hps
          repeat (first | ((with_reducible show wpAny _ _ (call (.ref _) _ _) _ _ _); (show wpAny _ _ (call _ [_, _]) _ _ _); ((with_reducible first | refine' c_lfg (by assumption) ?x ?y ?h ?i ?_ | refine' c_gfl (by assumption) ?x ?y ?h ?i ?_); (case x => x_close); (case y => x_close); (case h => walk_at "room"); (case i => walk_at "room")); intros) | walk_at "go")
          exact hq _ _ _ (Fx.ev (by assumption)) (Fx.tb (by assumption)) (by x_close)
      · have e1 : n = 1 := by have := of_decide_eq_false e; lia
        subst e1
        obtain ⟨u, rfl⟩ := List.length_eq_one_iff.mp hn
        rw [norm_one] at h4
        rw [h4] at hps
        repeat (first | ((with_reducible show wpAny _ _ (call (.ref _) _ _) _ _ _); (show wpAny _ _ (call _ [_, _]) _ _ _); ((with_reducible first | refine' c_lfg (by assumption) ?x ?y ?h ?i ?_ | refine' c_gfl (by assumption) ?x ?y ?h ?i ?_); (case x => x_close); (case y => x_close); (case h => walk_at "room"); (case i => walk_at "room")); intros) | walk_at "go")
        exact hq _ _ _ (Fx.ev (by assumption)) (Fx.tb (by assumption)) (by x_close)
    · exact (hI1 _ _).2 fun _ q => q _ _ _ _ _ rfl (by assumption) rfl (by x_close) (by simp) (by lia) (by lia) (by simp only [List.flatten_append, List.length_append, List.flatten_cons, List.flatten_nil, List.length_cons, List.length_nil, List.append_nil]; lia) rfl
theorem c_join {h₀ : Heap} {L : Addr} {m : Str → Option Value} (F : Fx w.params Z h₀ L h m) {ps : List W} {a : Addr} {c : Int} {k : Tok} (hu : Wds Z h ps a) (hlen : ps.length ≤ 1000) (hfl : ps.flatten.length ≤ 1000) {Q : Value → Shared → Prop} (hd : A.depth < 880) (hA : A.units < 8800)
   (hq : ∀ h' tk r, Fx w.params Z h₀ L h' m → Lk Z h h' → Wds Z h' (join ps c) r → Q (.ref r) ⟨h', g, d, tk, os⟩) :
   wpAny (model prog w) A (call (.ref 51) [.ref a, .int c k]) Q E ⟨h, g, d, t, os⟩ :=
  w_join hu hlen hfl F.gd F.zf hd hA fun h' tk r e T => let ⟨a, b⟩ := F.evo e T; hq h' tk r a b
end
end

section
-- part W4
section
variable {prog : Program} {w : World} {A : Around} {E : Value → Shared → Prop} {h : Heap} {g : Array GenState} {d : Drawn} {t : Nat} {os : OsState} {M : Model} {env : Env} {s : Shared} {Z : Addr → Prop}
theorem w_red {u : W} {a b : Addr} (hu : Wd Z h u a) (hp : Wds Z h [] b) (hlen : u.length ≤ 1000) (hh : A.handled = none) {Q : Value → Shared → Prop} (G : Gd w.params h) (hz : ∀ b, h.objs.size ≤ b → Z b) (hd : A.depth < 870) (hA : A.units < 8700)
   (hq : ∀ h' tk r, Evo h h' → Tb h' → Wds Z h' (facto u) r → Q (.ref r) ⟨h', g, d, tk, os⟩) :
   wpAny (model prog w) A (call (.ref 44) [.ref 51, .ref a, .ref b]) Q E ⟨h, g, d, t, os⟩ := by
  have hR : recursionLimit = 1000 := rfl
  refine' fcallF (binds := [(Str.ofString "function", .ref 51), (Str.ofString "sequence", .ref a), (Str.ofString "initial", .ref b)]) (Z := Z) G hz ?ho (by lia) ?hcd ?hbody ?hbind ?hloc ?hcell ?hk ?hco ?hgen ?hg ?hb ?hq
  case ho => kernel_rfl
  case hbody => exact rfl
  case hbind => refine bind44 _ _ _ G.k
  case hk => kernel_rfl
  case hco => kernel_rfl
  case hgen => kernel_rfl
  case hg => kernel_rfl
  case hb => kernel_rfl
  case hcell => kernel_rfl
  case hloc => kernel_rfl
  case hcd => exact ⟨43, objAt w.params 43, _, _, rfl, G.k 43 _ (by kernel_rfl), rfl, rfl⟩
  case hq =>
    intro h₁ L F K t₁ env I
    repeat (first | ((with_reducible show wpAny _ _ (call (.ref _) _ _) _ _ _); (show wpAny _ _ (call _ [_, _]) _ _ _); ((with_reducible refine' c_join (by assumption) ?x ?z ?n ?h ?i ?_); (case x => x_close); (case z => walk_at "sz"); (case n => walk_at "sz"); (case h => walk_at "room"); (case i => walk_at "room")); intros) | walk_at "go")
    rename_i h2 it F2 K2 hit hn h3 F3 K3 h4 F4 K4
    obtain ⟨I1, hI1⟩ := inv_of fun n s => ∀ Cc : Prop, (∀ hh tk m i b ps, s = ⟨hh, g, d, tk, os⟩ → Fx w.params Z h L hh m → m (Str.ofString "value") = some (.ref b) → m (Str.ofString "function") = some (.ref 51) → WIt h Z hh it u i → Wds Z hh ps b → ps = facto (u.take i) → i ≤ u.length → n = u.length - i → Cc) → Cc
    refine codeAny_forLoop I1 ?_ u.length ?_
    · intro n s hs
      refine (hI1 _ _).1 hs _ fun hh tk m i b' ps er1 F' hm hm2 hit' hps e hi hn => ?_
      clear hs
      subst er1
      have hsp := facto_spec (u.take i)
      rw [← e] at hsp
      obtain ⟨_, hal, hfl⟩ := hsp
      have hfl' : ps.flatten.length ≤ 1000 := by rw [hfl, List.length_take]; lia
      have hle : ps.length ≤ 1000 := Nat.le_trans (length_le_flatten ps hal) hfl'
      by_cases hlt : i < u.length
      · refine next_w F' hit' hlt fun h5 tk5 F5 K5 hit5 => ?_
        repeat (first | ((with_reducible show wpAny _ _ (call (.ref _) _ _) _ _ _); (show wpAny _ _ (call _ [_, _]) _ _ _); ((with_reducible refine' c_join (by assumption) ?x ?z ?n ?h ?i ?_); (case x => x_close); (case z => walk_at "sz"); (case n => walk_at "sz"); (case h => walk_at "room"); (case i => walk_at "room")); intros) | walk_at "go")
        rename_i h6 tk6 r6 F6 K6 w6 h7 F7 K7
        exact ⟨u.length - (i + 1), by lia, (hI1 _ _).2 fun _ q => q _ _ _ (i + 1) _ _ rfl F7 rfl hm2 (by x_close) (by x_close) (by rw [e, List.take_succ_eq_append_getElem hlt]; unfold facto; rw [List.foldl_append]; rfl) (by lia) rfl⟩
      · refine next_we F' hit' hlt ‹_› fun h5 F5 K5 => ?_
        have hie : i = u.length := by lia
        rw [hie, List.take_length] at e
        rw [e] at hps
        repeat (first | ((with_reducible show wpAny _ _ (call (.ref _) _ _) _ _ _); (show wpAny _ _ (call _ [_, _]) _ _ _); ((with_reducible refine' c_join (by assumption) ?x ?z ?n ?h ?i ?_); (case x => x_close); (case z => walk_at "sz"); (case n => walk_at "sz"); (case h => walk_at "room"); (case i => walk_at "room")); intros) | walk_at "go")
        exact hq _ _ _ (Fx.ev (by assumption)) (Fx.tb (by assumption)) (by x_close)
    · exact (hI1 _ _).2 fun _ q => q _ _ _ 0 _ _ rfl (by assumption) rfl rfl (by x_close) (by x_close) (by simp [facto]) (by lia) (by lia)
theorem c_red {h₀ : Heap} {L : Addr} {m : Str → Option Value} (F : Fx w.params Z h₀ L h m) {u : W} {a b : Addr} (hu : Wd Z h u a) (hp : Wds Z h [] b) (hlen : u.length ≤ 1000) (hh : A.handled = none) {Q : Value → Shared → Prop} (hd : A.depth < 870) (hA : A.units < 8700)
   (hq : ∀ h' tk r, Fx w.params Z h₀ L h' m → Lk Z h h' → Wds Z h' (facto u) r → Q (.ref r) ⟨h', g, d, tk, os⟩) :
   wpAny (model prog w) A (call (.ref 44) [.ref 51, .ref a, .ref b]) Q E ⟨h, g, d, t, os⟩ :=
  w_red hu hp hlen hh F.gd F.zf hd hA fun h' tk r e T => let ⟨a, b⟩ := F.evo e T; hq h' tk r a b
end
end

section
-- part W5
section
variable {prog : Program} {w : World} {A : Around} {E : Value → Shared → Prop} {h : Heap} {g : Array GenState} {d : Drawn} {t : Nat} {os : OsState} {M : Model} {env : Env} {s : Shared} {Z : Addr → Prop}
theorem w_cut {u : W} {a : Addr} (hu : Wd Z h u a) (hlen : u.length ≤ 1000) (hh : A.handled = none) {Q : Value → Shared → Prop} (G : Gd w.params h) (hz : ∀ b, h.objs.size ≤ b → Z b) (hd : A.depth < 870) (hA : A.units < 8700)
   (hq : ∀ h' tk r, Evo h h' → Tb h' → Wds Z h' (cut u) r → Q (.ref r) ⟨h', g, d, tk, os⟩) :
   wpAny (model prog w) A (call (.ref 58) [.ref a]) Q E ⟨h, g, d, t, os⟩ := by
  have hR : recursionLimit = 1000 := rfl
  refine' fcallF (binds := [(Str.ofString "word", .ref a)]) (Z := Z) G hz ?ho (by lia) ?hcd ?hbody ?hbind ?hloc ?hcell ?hk ?hco ?hgen ?hg ?hb ?hq
  case ho => kernel_rfl
  case hbody => exact rfl
  case hbind => (refine BindsTo.of_eq ?_; kernel_rfl)
  case hk => kernel_rfl
  case hco => kernel_rfl
  case hgen => kernel_rfl
  case hg => kernel_rfl
  case hb => kernel_rfl
  case hcell => kernel_rfl
  case hloc => kernel_rfl
  case hcd => exact ⟨57, objAt w.params 57, _, _, rfl, G.k 57 _ (by kernel_rfl), rfl, rfl⟩
  case hq =>
    intro h₁ L F K t₁ env I
    repeat walk_at "go"
    rename_i h2 p2 F2 K2 i2 w2 ws2 hn2 k2 h3 F3 K3
    obtain ⟨I1, hI1⟩ := inv_of fun n s => ∀ Cc : Prop, (∀ hh tk m a b wd ps, s = ⟨hh, g, d, tk, os⟩ → Fx w.params Z h L hh m → m (Str.ofString "word") = some (.ref a) → m (Str.ofString "parts") = some (.ref b) → Wd Z hh wd a → Wds Z hh ps b → cutF n wd ps = cut u → wd.length ≤ n → ps.length + n ≤ 1000 → Cc) → Cc
    refine codeAny_whileLoop I1 ?_ u.length ((hI1 _ _).2 fun _ q => q _ _ _ _ _ u [] rfl F3 rfl rfl (by x_close) (by x_close) rfl (Nat.le_refl _) (by simp; lia))
    intro n s hs
    refine (hI1 _ _).1 hs _ fun hx tk m a' b' wd ps er1 F' hm hm2 hwd hps hc hl1 hl2 => ?_
    clear hs
    subst er1
    repeat walk_at "go"
    refine pite (fun e => ?_) fun e => ?_
    · have hne : wd ≠ [] := by simpa using e
      have hpos : 1 ≤ wd.length := by cases wd with | nil => exact absurd rfl hne | cons => simp
      repeat walk_at "go"
      rename_i h7 it F7 K7 rit hnit
      obtain ⟨I2, hI2⟩ := inv_of fun k s => ∀ Cc : Prop, (∀ hh tk m2 i tkl l, s = ⟨hh, g, d, tk, os⟩ → Fx w.params Z h L hh m2 → m2 (Str.ofString "word") = some (.ref a') → m2 (Str.ofString "parts") = some (.ref b') → m2 (Str.ofString "least") = some (.int l tkl) → Wd Z hh wd a' → Wds Z hh ps b' → l = (((List.range i).foldl (leastStep wd) (wd.length - 1) : Nat) : Int) → RIt h Z hh it i k → i + k = wd.length - 1 → Cc) → Cc
      refine codeAny_forLoop I2 ?_ (wd.length - 1)
        ((hI2 _ _).2 fun _ q => q _ _ _ 0 _ _ rfl F7 hm hm2 rfl (by x_close) (by x_close) (by show ((wd.length : Int) - 1) = ((wd.length - 1 : Nat) : Int); lia) (by rw [show ((wd.length : Int) - 1).toNat = wd.length - 1 by lia] at rit; exact rit) (by lia))
      intro k s hs
      refine (hI2 _ _).1 hs _ fun hh2 tk2 m2 i tkl l er1 F8 q1 q2 q3 hwd2 hps2 er2 rit2 hik => ?_
      clear hs
      subst er1
      subst er2
      cases k with
      | zero =>
        refine next_re F8 rit2 ‹_› fun h9 F9 K9 => ?_
        obtain ⟨f, rfl⟩ : ∃ f, n = f + 1 := ⟨n - 1, by lia⟩
        have ei : i = wd.length - 1 := by lia
        have hc' : cutF f (wd.take (leastOf wd)) (wd.drop (leastOf wd) :: ps) = cut u := by rw [← hc]; show _ = if wd = [] then _ else _; rw [if_neg hne]
        have hlt := (least_spec wd hne).1
        have hlo : (List.range i).foldl (leastStep wd) (wd.length - 1) = leastOf wd := by rw [ei]; rfl
        rw [hlo] at q3
        repeat walk_at "go"
        rename_i h10 F10 K10
        exact ⟨f, by lia, (hI1 _ _).2 fun _ q => q _ _ _ _ _ (wd.take (leastOf wd)) (wd.drop (leastOf wd) :: ps) rfl F10 rfl rfl (by rw [← slc_upto wd (leastOf wd)]; x_close) (by rw [← slc_from wd (leastOf wd)]; show Wds _ _ ([_] ++ ps) _; x_close) hc' (by rw [List.length_take]; lia) (by rw [List.length_cons]; lia)⟩
      | succ k =>
        refine next_r F8 rit2 fun h9 tk9 tk9' F9 K9 rit9 => ?_
        repeat walk_at "go"
        have hst : leastStep wd ((List.range i).foldl (leastStep wd) (wd.length - 1)) i = (List.range (i + 1)).foldl (leastStep wd) (wd.length - 1) := by rw [List.range_succ, List.foldl_append]; rfl
        refine pite (fun e => ?_) fun e => ?_
        · rw [slc_from, slc_from] at e
          have hst2 := hst.symm.trans (if_pos e)
          repeat walk_at "go"
          rename_i h10 F10 K10
          exact ⟨k, by lia, (hI2 _ _).2 fun _ q => q _ _ _ (i + 1) _ _ rfl F10 q1 q2 rfl (by x_close) (by x_close) (by rw [hst2]) (by x_close) (by lia)⟩
        · rw [slc_from, slc_from] at e
          have hst2 := hst.symm.trans (if_neg (by rw [e]; exact Bool.false_ne_true))
          repeat walk_at "go"
          rename_i h10 c10 F10 K10 w10 n10
          exact ⟨k, by lia, (hI2 _ _).2 fun _ q => q _ _ _ (i + 1) _ _ rfl F10 q1 q2 q3 (by x_close) (by x_close) (by rw [hst2]) (by x_close) (by lia)⟩
    · have hne : wd = [] := by simpa using e
      have hr : ps = cut u := by rw [← hc, hne]; cases n <;> rfl
      rw [hr] at hps
      repeat walk_at "go"
      exact hq _ _ _ (Fx.ev (by assumption)) (Fx.tb (by assumption)) (by x_close)
end
end

section
-- part K1
open PySem PySem.W PyProof.Rows
section
variable {w : World} {A : Around} {E : Value → Shared → Prop} {h : Heap} {d : Drawn} {t : Nat} {os : OsState} {M : Model} {env : Env} {s : Shared} {Z : Addr → Prop}
local macro_rules | `(tactic| x_close) => `(tactic| (first | assumption | ((with_reducible first | refine' TB.lk ?k ?x | refine' CL.lk ?k ?x | refine' fn_lk ?k ?x | refine' li_lk ?k ?x | refine' tu_lk ?k ?x | refine' FD.lk ?k ?x); (case k => assumption); (case x => x_close)) | fail))
theorem w_ctk {v : Value} {Q : Value → Shared → Prop} (G : Gd w.params h) (hz : ∀ b, h.objs.size ≤ b → Z b) (hd : A.depth < 460) (hA : A.units < 4600)
   (hq : ∀ h' tk a ns md f0 f1 c fd0 fd1 es, Evo h h' → Tb h' → KC w.params h' v a ns md f0 f1 c fd0 fd1 es → Q (.ref a) ⟨h', #[], d, tk, os⟩) :
   wpAny (model Challenge.pw_sn0002_01 w) A (call (.ref 35) [v]) Q E ⟨h, #[], d, t, os⟩ := by
  have hR : recursionLimit = 1000 := rfl
  refine' fcallC (x := Str.ofString "mycmp") (Z := Z) G hz ?ho (by lia) ?hcd ?hbody ?hbind ?hx ?hcells ?hk ?hco ?hgen ?hg ?hb ?hclo ?hq
  case ho => kernel_rfl
  case hbody => exact rfl
  case hbind => kernel_rfl
  case hx => kernel_rfl
  case hcells => intro n; kernel_rfl
  case hk => kernel_rfl
  case hco => kernel_rfl
  case hgen => kernel_rfl
  case hg => kernel_rfl
  case hb => kernel_rfl
  case hclo => kernel_rfl
  case hcd => exact ⟨34, objAt w.params 34, _, _, rfl, G.k 34 _ (by kernel_rfl), rfl, rfl⟩
  case hq =>
    intro h₁ L c F K hc hLc hcn t₁ env I hce
    have ecode : env.code = .ref 34 := I.co.trans (by kernel_rfl)
    have hqual : qualnameIn env (Str.ofString "K") (Str.ofString "K") = kq := by
      unfold qualnameIn
      rw [I.ko (x := Str.ofString "K") (k := .local) (by kernel_rfl), if_neg (by decide), I.qu]; kernel_rfl
    have eg := I.gs
    have hcl : env.cells.lookup (Str.ofString "mycmp") = some c := by rw [hce]; rfl
    repeat (first | (first | (with_reducible refine PySem.wpAny_bind ?_) | (with_reducible refine PySem.wpAny_pure ?_) | (with_reducible refine PySem.wpAny_holding ?_) | (with_reducible refine PySem.wpAny_standAt ?_) | (with_reducible refine PySem.wpAny_point ?_) | (with_reducible refine wpAny_execs_cons ?_) | ((with_reducible refine' ngB ?f ?i ?hv ?_); (case f => assumption); (case i => assumption); (case hv => first | with_reducible exact gb_bc _)) | ((with_reducible refine' ngG ?f ?i ?hv ?_); (case f => assumption); (case i => assumption); (case hv => first | with_reducible exact gl_bs _ | with_reducible exact gl_nm _)) | ((with_reducible refine' r_ccode ?T ?N ?hc ?hl ?hk ?_); (case T => exact Fx.tb (by assumption)); (case N => assumption); (case hc => assumption); (case hl => rfl); (case hk => rfl); intro _ _ _ _ _ _) | ((with_reducible refine' r_bfC ?C ?K ?hN ?hg ?_); (case C => assumption); (case K => assumption); (case hN => assumption); (case hg => assumption)) | ((with_reducible refine' ngGC ?C ?K ?hN ?hg ?hv ?_); (case C => assumption); (case K => assumption); (case hN => assumption); (case hg => assumption); (case hv => first | with_reducible exact gl_bs _ | with_reducible exact gl_nm _)) | ((with_reducible refine' CB.al ?C ?_ ?hf); (case C => assumption); (case hf => rfl); intro _ _ _ _ _ _) | ((with_reducible refine' PySem.wpAny_cellOf ?h ?_); (case h => first | assumption | rfl)) | ((with_reducible refine' enF ?C ?K ?hN ?hd ?_); (case C => assumption); (case K => assumption); (case hN => assumption); (case hd => walk_at "room")) | ((with_reducible refine' stC ?C ?hl ?hs ?_); (case C => assumption); (case hl => rfl); (case hs => rfl); intro _ _ _) | ((with_reducible refine' ngN ?C ?hv ?_); (case C => assumption); (case hv => rfl)) | ((with_reducible refine' ldN ?C ?_); (case C => assumption); intro _ _) | (with_reducible refine PySem.wpAny_onRaise ?_) | ((with_reducible refine' mkFn (q := (18, Str.ofString "cmp_to_key.<locals>.K.__init__")) ?C ?K ?hN ?hc ?hg ?hb ?hclo ?hdoc ?hqm ?hqd ?hline ?hcol ?hqn ?_); (case hline => rfl); (case C => assumption); (case K => assumption); (case hN => assumption); (case hc => rfl); (case hg => assumption); (case hb => rfl); (case hclo => first | rfl | kernel_rfl); (case hdoc => rfl); (case hqm => decide); (case hqd => decide); (case hcol => rfl); (case hqn => kernel_rfl); intro _ _ _ _ _ _ _ _ _ _) | ((with_reducible refine' mkFn (q := (21, Str.ofString "cmp_to_key.<locals>.K.__lt__")) ?C ?K ?hN ?hc ?hg ?hb ?hclo ?hdoc ?hqm ?hqd ?hline ?hcol ?hqn ?_); (case hline => rfl); (case C => assumption); (case K => assumption); (case hN => assumption); (case hc => rfl); (case hg => assumption); (case hb => rfl); (case hclo => first | rfl | kernel_rfl); (case hdoc => rfl); (case hqm => decide); (case hqd => decide); (case hcol => rfl); (case hqn => kernel_rfl); intro _ _ _ _ _ _ _ _ _ _) | ((with_reducible refine' mkFn (q := (24, Str.ofString "cmp_to_key.<locals>.K.__gt__")) ?C ?K ?hN ?hc ?hg ?hb ?hclo ?hdoc ?hqm ?hqd ?hline ?hcol ?hqn ?_); (case hline => rfl); (case C => assumption); (case K => assumption); (case hN => assumption); (case hc => rfl); (case hg => assumption); (case hb => rfl); (case hclo => first | rfl | kernel_rfl); (case hdoc => rfl); (case hqm => decide); (case hqd => decide); (case hcol => rfl); (case hqn => kernel_rfl); intro _ _ _ _ _ _ _ _ _ _) | ((with_reducible refine' mkFn (q := (27, Str.ofString "cmp_to_key.<locals>.K.__eq__")) ?C ?K ?hN ?hc ?hg ?hb ?hclo ?hdoc ?hqm ?hqd ?hline ?hcol ?hqn ?_); (case hline => rfl); (case C => assumption); (case K => assumption); (case hN => assumption); (case hc => rfl); (case hg => assumption); (case hb => rfl); (case hclo => first | rfl | kernel_rfl); (case hdoc => rfl); (case hqm => decide); (case hqd => decide); (case hcol => rfl); (case hqn => kernel_rfl); intro _ _ _ _ _ _ _ _ _ _) | ((with_reducible refine' mkFn (q := (30, Str.ofString "cmp_to_key.<locals>.K.__le__")) ?C ?K ?hN ?hc ?hg ?hb ?hclo ?hdoc ?hqm ?hqd ?hline ?hcol ?hqn ?_); (case hline => rfl); (case C => assumption); (case K => assumption); (case hN => assumption); (case hc => rfl); (case hg => assumption); (case hb => rfl); (case hclo => first | rfl | kernel_rfl); (case hdoc => rfl); (case hqm => decide); (case hqd => decide); (case hcol => rfl); (case hqn => kernel_rfl); intro _ _ _ _ _ _ _ _ _ _) | ((with_reducible refine' mkFn (q := (33, Str.ofString "cmp_to_key.<locals>.K.__ge__")) ?C ?K ?hN ?hc ?hg ?hb ?hclo ?hdoc ?hqm ?hqd ?hline ?hcol ?hqn ?_); (case hline => rfl); (case C => assumption); (case K => assumption); (case hN => assumption); (case hc => rfl); (case hg => assumption); (case hb => rfl); (case hclo => first | rfl | kernel_rfl); (case hdoc => rfl); (case hqm => decide); (case hqd => decide); (case hcol => rfl); (case hqn => kernel_rfl); intro _ _ _ _ _ _ _ _ _ _) | (with_reducible refine k_str ?_) | (with_reducible refine wpAny_Constant_none ?_) | ((with_reducible refine' lstC ?C ?_); (case C => assumption); intro _ _ _ _ _) | ((with_reducible refine' ttC ?C ?_); (case C => assumption); intro _ _ _ _ _) | ((with_reducible refine' sp_gi ?h ?_); (case h => assumption)) | (with_reducible refine PySem.wpAny_of_eq f_it ?_) | (with_reducible refine PySem.wpAny_of_eq f_ty ?_) | (with_reducible refine PySem.wpAny_of_eq f_sub ?_) | ((with_reducible refine' nwT ?f ?sz ?_); (case f => assumption); (case sz => first | decide | (show 1 ≤ sizeLine; decide)); intro _ _ _ _ _ _) | (with_reducible refine mkT ?_) | ((with_reducible refine' c_gprep ?f ?hu ?hd ?_); (case f => assumption); (case hu => walk_at "room"); (case hd => walk_at "room"); intro _ _ _ _ _ _) | ((with_reducible show wpAny _ _ (call (.ref _) _ _) _ _ _); (show wpAny _ _ (call (.ref _) [.str (S "K") _, .ref _] []) _ _ _); refine' c_prep ?f ?hx ?hB ?hu ?hd ?_; (case f => assumption); (case hx => assumption); (case hB => x_close); (case hu => walk_at "room"); (case hd => walk_at "room"); intro _ _ _ _ _ _ _)) | walk_at "go")
    rename_i h2 B F2 K2 tb hbn h3 x tk3 F3 K3 hx h4 N tk4 F4 K4 hN hNn
    have n1 := nsys F3.kx hNn
    refine PySem.wpAny_ite_false (by rw [n1]; rfl) ?_
    have KB := F4.kx
    have hNK : ∀ b o, List.lookup b (KT w.params) = some o → b ≠ N := fun b o e => by
      rintro rfl; have := F3.kx _ _ e; rw [hNn] at this; cases this
    rw [hqual]
    repeat (first | (first | (with_reducible refine PySem.wpAny_bind ?_) | (with_reducible refine PySem.wpAny_pure ?_) | (with_reducible refine PySem.wpAny_holding ?_) | (with_reducible refine PySem.wpAny_standAt ?_) | (with_reducible refine PySem.wpAny_point ?_) | (with_reducible refine wpAny_execs_cons ?_) | ((with_reducible refine' ngB ?f ?i ?hv ?_); (case f => assumption); (case i => assumption); (case hv => first | with_reducible exact gb_bc _)) | ((with_reducible refine' ngG ?f ?i ?hv ?_); (case f => assumption); (case i => assumption); (case hv => first | with_reducible exact gl_bs _ | with_reducible exact gl_nm _)) | ((with_reducible refine' r_ccode ?T ?N ?hc ?hl ?hk ?_); (case T => exact Fx.tb (by assumption)); (case N => assumption); (case hc => assumption); (case hl => rfl); (case hk => rfl); intro _ _ _ _ _ _) | ((with_reducible refine' r_bfC ?C ?K ?hN ?hg ?_); (case C => assumption); (case K => assumption); (case hN => assumption); (case hg => assumption)) | ((with_reducible refine' ngGC ?C ?K ?hN ?hg ?hv ?_); (case C => assumption); (case K => assumption); (case hN => assumption); (case hg => assumption); (case hv => first | with_reducible exact gl_bs _ | with_reducible exact gl_nm _)) | ((with_reducible refine' CB.al ?C ?_ ?hf); (case C => assumption); (case hf => rfl); intro _ _ _ _ _ _) | ((with_reducible refine' PySem.wpAny_cellOf ?h ?_); (case h => first | assumption | rfl)) | ((with_reducible refine' enF ?C ?K ?hN ?hd ?_); (case C => assumption); (case K => assumption); (case hN => assumption); (case hd => walk_at "room")) | ((with_reducible refine' stC ?C ?hl ?hs ?_); (case C => assumption); (case hl => rfl); (case hs => rfl); intro _ _ _) | ((with_reducible refine' ngN ?C ?hv ?_); (case C => assumption); (case hv => rfl)) | ((with_reducible refine' ldN ?C ?_); (case C => assumption); intro _ _) | (with_reducible refine PySem.wpAny_onRaise ?_) | ((with_reducible refine' mkFn (q := (18, Str.ofString "cmp_to_key.<locals>.K.__init__")) ?C ?K ?hN ?hc ?hg ?hb ?hclo ?hdoc ?hqm ?hqd ?hline ?hcol ?hqn ?_); (case hline => rfl); (case C => assumption); (case K => assumption); (case hN => assumption); (case hc => rfl); (case hg => assumption); (case hb => rfl); (case hclo => first | rfl | kernel_rfl); (case hdoc => rfl); (case hqm => decide); (case hqd => decide); (case hcol => rfl); (case hqn => kernel_rfl); intro _ _ _ _ _ _ _ _ _ _) | ((with_reducible refine' mkFn (q := (21, Str.ofString "cmp_to_key.<locals>.K.__lt__")) ?C ?K ?hN ?hc ?hg ?hb ?hclo ?hdoc ?hqm ?hqd ?hline ?hcol ?hqn ?_); (case hline => rfl); (case C => assumption); (case K => assumption); (case hN => assumption); (case hc => rfl); (case hg => assumption); (case hb => rfl); (case hclo => first | rfl | kernel_rfl); (case hdoc => rfl); (case hqm => decide); (case hqd => decide); (case hcol => rfl); (case hqn => kernel_rfl); intro _ _ _ _ _ _ _ _ _ _) | ((with_reducible refine' mkFn (q := (24, Str.ofString "cmp_to_key.<locals>.K.__gt__")) ?C ?K ?hN ?hc ?hg ?hb ?hclo ?hdoc ?hqm ?hqd ?hline ?hcol ?hqn ?_); (case hline => rfl); (case C => assumption); (case K => assumption); (case hN => assumption); (case hc => rfl); (case hg => assumption); (case hb => rfl); (case hclo => first | rfl | kernel_rfl); (case hdoc => rfl); (case hqm => decide); (case hqd => decide); (case hcol => rfl); (case hqn => kernel_rfl); intro _ _ _ _ _ _ _ _ _ _) | ((with_reducible refine' mkFn (q := (27, Str.ofString "cmp_to_key.<locals>.K.__eq__")) ?C ?K ?hN ?hc ?hg ?hb ?hclo ?hdoc ?hqm ?hqd ?hline ?hcol ?hqn ?_); (case hline => rfl); (case C => assumption); (case K => assumption); (case hN => assumption); (case hc => rfl); (case hg => assumption); (case hb => rfl); (case hclo => first | rfl | kernel_rfl); (case hdoc => rfl); (case hqm => decide); (case hqd => decide); (case hcol => rfl); (case hqn => kernel_rfl); intro _ _ _ _ _ _ _ _ _ _) | ((with_reducible refine' mkFn (q := (30, Str.ofString "cmp_to_key.<locals>.K.__le__")) ?C ?K ?hN ?hc ?hg ?hb ?hclo ?hdoc ?hqm ?hqd ?hline ?hcol ?hqn ?_); (case hline => rfl); (case C => assumption); (case K => assumption); (case hN => assumption); (case hc => rfl); (case hg => assumption); (case hb => rfl); (case hclo => first | rfl | kernel_rfl); (case hdoc => rfl); (case hqm => decide); (case hqd => decide); (case hcol => rfl); (case hqn => kernel_rfl); intro _ _ _ _ _ _ _ _ _ _) | ((with_reducible refine' mkFn (q := (33, Str.ofString "cmp_to_key.<locals>.K.__ge__")) ?C ?K ?hN ?hc ?hg ?hb ?hclo ?hdoc ?hqm ?hqd ?hline ?hcol ?hqn ?_); (case hline => rfl); (case C => assumption); (case K => assumption); (case hN => assumption); (case hc => rfl); (case hg => assumption); (case hb => rfl); (case hclo => first | rfl | kernel_rfl); (case hdoc => rfl); (case hqm => decide); (case hqd => decide); (case hcol => rfl); (case hqn => kernel_rfl); intro _ _ _ _ _ _ _ _ _ _) | (with_reducible refine k_str ?_) | (with_reducible refine wpAny_Constant_none ?_) | ((with_reducible refine' lstC ?C ?_); (case C => assumption); intro _ _ _ _ _) | ((with_reducible refine' ttC ?C ?_); (case C => assumption); intro _ _ _ _ _) | ((with_reducible refine' sp_gi ?h ?_); (case h => assumption)) | (with_reducible refine PySem.wpAny_of_eq f_it ?_) | (with_reducible refine PySem.wpAny_of_eq f_ty ?_) | (with_reducible refine PySem.wpAny_of_eq f_sub ?_) | ((with_reducible refine' nwT ?f ?sz ?_); (case f => assumption); (case sz => first | decide | (show 1 ≤ sizeLine; decide)); intro _ _ _ _ _ _) | (with_reducible refine mkT ?_) | ((with_reducible refine' c_gprep ?f ?hu ?hd ?_); (case f => assumption); (case hu => walk_at "room"); (case hd => walk_at "room"); intro _ _ _ _ _ _) | ((with_reducible show wpAny _ _ (call (.ref _) _ _) _ _ _); (show wpAny _ _ (call (.ref _) [.str (S "K") _, .ref _] []) _ _ _); refine' c_prep ?f ?hx ?hB ?hu ?hd ?_; (case f => assumption); (case hx => assumption); (case hB => x_close); (case hu => walk_at "room"); (case hd => walk_at "room"); intro _ _ _ _ _ _ _)) | walk_at "go")
    refine wpAny_run (codeAny_body rfl rfl ?_)
    repeat (first | (first | (with_reducible refine PySem.wpAny_bind ?_) | (with_reducible refine PySem.wpAny_pure ?_) | (with_reducible refine PySem.wpAny_holding ?_) | (with_reducible refine PySem.wpAny_standAt ?_) | (with_reducible refine PySem.wpAny_point ?_) | (with_reducible refine wpAny_execs_cons ?_) | ((with_reducible refine' ngB ?f ?i ?hv ?_); (case f => assumption); (case i => assumption); (case hv => first | with_reducible exact gb_bc _)) | ((with_reducible refine' ngG ?f ?i ?hv ?_); (case f => assumption); (case i => assumption); (case hv => first | with_reducible exact gl_bs _ | with_reducible exact gl_nm _)) | ((with_reducible refine' r_ccode ?T ?N ?hc ?hl ?hk ?_); (case T => exact Fx.tb (by assumption)); (case N => assumption); (case hc => assumption); (case hl => rfl); (case hk => rfl); intro _ _ _ _ _ _) | ((with_reducible refine' r_bfC ?C ?K ?hN ?hg ?_); (case C => assumption); (case K => assumption); (case hN => assumption); (case hg => assumption)) | ((with_reducible refine' ngGC ?C ?K ?hN ?hg ?hv ?_); (case C => assumption); (case K => assumption); (case hN => assumption); (case hg => assumption); (case hv => first | with_reducible exact gl_bs _ | with_reducible exact gl_nm _)) | ((with_reducible refine' CB.al ?C ?_ ?hf); (case C => assumption); (case hf => rfl); intro _ _ _ _ _ _) | ((with_reducible refine' PySem.wpAny_cellOf ?h ?_); (case h => first | assumption | rfl)) | ((with_reducible refine' enF ?C ?K ?hN ?hd ?_); (case C => assumption); (case K => assumption); (case hN => assumption); (case hd => walk_at "room")) | ((with_reducible refine' stC ?C ?hl ?hs ?_); (case C => assumption); (case hl => rfl); (case hs => rfl); intro _ _ _) | ((with_reducible refine' ngN ?C ?hv ?_); (case C => assumption); (case hv => rfl)) | ((with_reducible refine' ldN ?C ?_); (case C => assumption); intro _ _) | (with_reducible refine PySem.wpAny_onRaise ?_) | ((with_reducible refine' mkFn (q := (18, Str.ofString "cmp_to_key.<locals>.K.__init__")) ?C ?K ?hN ?hc ?hg ?hb ?hclo ?hdoc ?hqm ?hqd ?hline ?hcol ?hqn ?_); (case hline => rfl); (case C => assumption); (case K => assumption); (case hN => assumption); (case hc => rfl); (case hg => assumption); (case hb => rfl); (case hclo => first | rfl | kernel_rfl); (case hdoc => rfl); (case hqm => decide); (case hqd => decide); (case hcol => rfl); (case hqn => kernel_rfl); intro _ _ _ _ _ _ _ _ _ _) | ((with_reducible refine' mkFn (q := (21, Str.ofString "cmp_to_key.<locals>.K.__lt__")) ?C ?K ?hN ?hc ?hg ?hb ?hclo ?hdoc ?hqm ?hqd ?hline ?hcol ?hqn ?_); (case hline => rfl); (case C => assumption); (case K => assumption); (case hN => assumption); (case hc => rfl); (case hg => assumption); (case hb => rfl); (case hclo => first | rfl | kernel_rfl); (case hdoc => rfl); (case hqm => decide); (case hqd => decide); (case hcol => rfl); (case hqn => kernel_rfl); intro _ _ _ _ _ _ _ _ _ _) | ((with_reducible refine' mkFn (q := (24, Str.ofString "cmp_to_key.<locals>.K.__gt__")) ?C ?K ?hN ?hc ?hg ?hb ?hclo ?hdoc ?hqm ?hqd ?hline ?hcol ?hqn ?_); (case hline => rfl); (case C => assumption); (case K => assumption); (case hN => assumption); (case hc => rfl); (case hg => assumption); (case hb => rfl); (case hclo => first | rfl | kernel_rfl); (case hdoc => rfl); (case hqm => decide); (case hqd => decide); (case hcol => rfl); (case hqn => kernel_rfl); intro _ _ _ _ _ _ _ _ _ _) | ((with_reducible refine' mkFn (q := (27, Str.ofString "cmp_to_key.<locals>.K.__eq__")) ?C ?K ?hN ?hc ?hg ?hb ?hclo ?hdoc ?hqm ?hqd ?hline ?hcol ?hqn ?_); (case hline => rfl); (case C => assumption); (case K => assumption); (case hN => assumption); (case hc => rfl); (case hg => assumption); (case hb => rfl); (case hclo => first | rfl | kernel_rfl); (case hdoc => rfl); (case hqm => decide); (case hqd => decide); (case hcol => rfl); (case hqn => kernel_rfl); intro _ _ _ _ _ _ _ _ _ _) | ((with_reducible refine' mkFn (q := (30, Str.ofString "cmp_to_key.<locals>.K.__le__")) ?C ?K ?hN ?hc ?hg ?hb ?hclo ?hdoc ?hqm ?hqd ?hline ?hcol ?hqn ?_); (case hline => rfl); (case C => assumption); (case K => assumption); (case hN => assumption); (case hc => rfl); (case hg => assumption); (case hb => rfl); (case hclo => first | rfl | kernel_rfl); (case hdoc => rfl); (case hqm => decide); (case hqd => decide); (case hcol => rfl); (case hqn => kernel_rfl); intro _ _ _ _ _ _ _ _ _ _) | ((with_reducible refine' mkFn (q := (33, Str.ofString "cmp_to_key.<locals>.K.__ge__")) ?C ?K ?hN ?hc ?hg ?hb ?hclo ?hdoc ?hqm ?hqd ?hline ?hcol ?hqn ?_); (case hline => rfl); (case C => assumption); (case K => assumption); (case hN => assumption); (case hc => rfl); (case hg => assumption); (case hb => rfl); (case hclo => first | rfl | kernel_rfl); (case hdoc => rfl); (case hqm => decide); (case hqd => decide); (case hcol => rfl); (case hqn => kernel_rfl); intro _ _ _ _ _ _ _ _ _ _) | (with_reducible refine k_str ?_) | (with_reducible refine wpAny_Constant_none ?_) | ((with_reducible refine' lstC ?C ?_); (case C => assumption); intro _ _ _ _ _) | ((with_reducible refine' ttC ?C ?_); (case C => assumption); intro _ _ _ _ _) | ((with_reducible refine' sp_gi ?h ?_); (case h => assumption)) | (with_reducible refine PySem.wpAny_of_eq f_it ?_) | (with_reducible refine PySem.wpAny_of_eq f_ty ?_) | (with_reducible refine PySem.wpAny_of_eq f_sub ?_) | ((with_reducible refine' nwT ?f ?sz ?_); (case f => assumption); (case sz => first | decide | (show 1 ≤ sizeLine; decide)); intro _ _ _ _ _ _) | (with_reducible refine mkT ?_) | ((with_reducible refine' c_gprep ?f ?hu ?hd ?_); (case f => assumption); (case hu => walk_at "room"); (case hd => walk_at "room"); intro _ _ _ _ _ _) | ((with_reducible show wpAny _ _ (call (.ref _) _ _) _ _ _); (show wpAny _ _ (call (.ref _) [.str (S "K") _, .ref _] []) _ _ _); refine' c_prep ?f ?hx ?hB ?hu ?hd ?_; (case f => assumption); (case hx => assumption); (case hB => x_close); (case hu => walk_at "room"); (case hd => walk_at "room"); intro _ _ _ _ _ _ _)) | walk_at "go")
    have C6 := (by assumption : CB h4 _ N _ _ _ _ _)
    have hLN : L ≠ N := by rintro rfl; obtain ⟨o, es, n, e, _⟩ := F3.ns; rw [hNn] at e; cases e
    have tb4 := (tb.lk K3).lk K4
    have cl4 := CL.lk K4 (CL.lk K3 (CL.lk K2 (⟨hLc, hc⟩ : CL Z h₁ c v)))
    (show wpAny _ _ (call (.type "type") [.str (S "K") _, .ref _, .ref _]) _ _ _)
    refine' ctk_tail (c := c) C6 F4 ?hu ?hd ?hall hLN (new_old F3 hNn) ⟨_, hN⟩ n1 tb4 cl4 ?s rfl ⟨rfl, rfl, rfl, rfl, rfl, rfl, rfl, rfl⟩ ⟨_, rfl⟩ ⟨_, rfl⟩ rfl ?dom ?val rfl ?o0 ?d0 rfl ?o1 ?d1 ?hq
    (case hu => walk_at "room")
    (case hd => walk_at "room")
    (case hall => decide)
    (case s => (refine' ⟨_, _, rfl, ?e⟩; (case e => x_close)))
    (case o0 => x_close)
    (case d0 => (refine' FD.conv ?x ?e1 ?e2 ?e3; (case x => x_close); (case e1 => kernel_rfl); (case e2 => kernel_rfl); (case e3 => kernel_rfl)))
    (case o1 => x_close)
    (case d1 => (refine' FD.conv ?x ?e1 ?e2 ?e3; (case x => x_close); (case e1 => kernel_rfl); (case e2 => kernel_rfl); (case e3 => kernel_rfl)))
    (case dom => (repeat (first | exact (fun n h => absurd rfl h) | refine dom_step ?_)))
    (case val => (repeat (first | exact (fun n v h => by cases h) | refine val_step (by first | exact sn_str | exact sn_int | exact sn_none | (refine' sn_fn ?e; (case e => x_close)) | (refine' sn_li ?e; (case e => x_close)) | (refine' sn_tu ?e; (case e => x_close)) | fail) ?_)))
    (case hq =>
      intro h7 tk7 a ns md es F7 K7
      repeat (first | ((with_reducible refine' stK ?f ?i ?hl ?_); (case f => assumption); (case i => assumption); (case hl => kernel_rfl); intro _ _ _ _) | walk_at "go")
      rename_i h8 F8 K8 hs8
      exact hq _ _ _ _ _ _ _ _ _ _ _ F8.ev F8.tb (K7.set F7 hs8))
end
end

section
-- part W6
section
variable {w : World} {A : Around} {E : Value → Shared → Prop} {h : Heap} {d : Drawn} {t : Nat} {os : OsState} {M : Model} {env : Env} {s : Shared} {Z : Addr → Prop}
def turnsOf (p : W) : List W := (List.range p.length).map fun i => p.drop i ++ p.take i
theorem getD_get (T : List W) (i : Nat) (h : i < T.length) : T.getD i [] = T[i] := by simp [List.getD_eq_getElem?_getD, h]
theorem Items.hin {Z : Addr → Prop} {h : Heap} {us : List W} {ls : List Value} (x : Items Z h us ls) : ∀ v ∈ ls, handedIn v = true := by
  induction x with
  | nil => intro v hv; cases hv
  | cons a _ ih =>
    intro v hv
    rcases List.mem_cons.mp hv with rfl | hv
    · rfl
    · exact ih v hv
theorem Items.pick {Z : Addr → Prop} {h : Heap} {us : List W} {ls : List Value} (x : Items Z h us ls) : ∀ p : List Nat, (∀ i ∈ p, i < us.length) → Items Z h (p.map fun i => us.getD i []) (p.map fun i => ls.getD i .none)
  | [], _ => .nil
  | i :: p, hp => by
    obtain ⟨l, e, y⟩ := x.get i (hp i (.head _))
    have e2 : ls.getD i .none = .ref l := by rw [List.getD_eq_getElem?_getD, e]; rfl
    rw [List.map_cons, List.map_cons, e2, getD_get us i (hp i (.head _))]
    exact .cons y (x.pick p fun j hj => hp j (.tail _ hj))
theorem mem_len {p : W} : ∀ {l : List W}, p ∈ l → p.length ≤ l.flatten.length
  | x :: l, h => by
    rw [List.flatten_cons, List.length_append]
    rcases List.mem_cons.mp h with rfl | h
    · lia
    · have := mem_len h; lia
theorem turnsOf_len : ∀ (l : List W), (l.flatMap turnsOf).length = l.flatten.length
  | [] => rfl
  | x :: l => by rw [List.flatMap_cons, List.length_append, List.flatten_cons, List.length_append, turnsOf_len l]; unfold turnsOf; simp
theorem take_flat_len : ∀ (l : List W) (i : Nat), (l.take i).flatten.length ≤ l.flatten.length
  | [], i => by simp
  | x :: l, 0 => by simp
  | x :: l, i + 1 => by have := take_flat_len l i; simp only [List.take_succ_cons, List.flatten_cons, List.length_append]; lia
theorem w_turns {u : W} {a : Addr} (hu : Wd Z h u a) (h1 : 1 ≤ u.length) (h2 : u.length ≤ 12) (hh : A.handled = none) {Q : Value → Shared → Prop} (G : Gd w.params h) (hz : ∀ b, h.objs.size ≤ b → Z b) (hd : A.depth < 440) (hA : A.units < 4400)
   (hq : ∀ h' tk r, Evo h h' → Tb h' → Wds Z h' (turnsF 24 u) r → Q (.ref r) ⟨h', #[], d, tk, os⟩) :
   wpAny (model Challenge.pw_sn0002_01 w) A (call (.ref 72) [.ref a]) Q E ⟨h, #[], d, t, os⟩ := by
  have hR : recursionLimit = 1000 := rfl
  refine' fcallF (binds := [(Str.ofString "word", .ref a)]) (Z := Z) G hz ?ho (by lia) ?hcd ?hbody ?hbind ?hloc ?hcell ?hk ?hco ?hgen ?hg ?hb ?hq
  case ho => kernel_rfl
  case hbody => exact rfl
  case hbind => (refine BindsTo.of_eq ?_; kernel_rfl)
  case hk => kernel_rfl
  case hco => kernel_rfl
  case hgen => kernel_rfl
  case hg => kernel_rfl
  case hb => kernel_rfl
  case hcell => kernel_rfl
  case hloc => kernel_rfl
  case hcd => exact ⟨71, objAt w.params 71, _, _, rfl, G.k 71 _ (by kernel_rfl), rfl, rfl⟩
  case hq =>
    intro h₁ L F K t₁ env I
    repeat walk_at "go"
    rename_i h1' x F1 K1 il1 wd1 wds1 hn1 kp1 h2' F2 K2 h3' c2 F3 K3 il3 wd3 wds3 hn3 kp3
    have o1 : Ol Z h h1' x [] := ⟨wd1.1, new_old F hn1, 0, il1⟩
    have o3 : Ol Z h h3' x [] := (o1.lk K2).lk K3
    have hw : Wd (Zx Z x) h3' u a := ((((hu.lk K).st hn1).lk K1.sub).lk K2.sub).lk K3.sub
    have hp : Wds (Zx Z x) h3' [] c2 := ⟨⟨wds3.1, (o1.lk K2).ne hn3⟩, _, _, il3, .nil⟩
    show wpAny _ _ (call (.ref 44) [.ref 51, .ref a, .ref c2]) _ _ _
    refine w_red (Z := Zx Z x) hw hp (by lia) ‹_› F3.gd (fun b hb => ⟨F3.zf b hb, fun q => Nat.lt_irrefl _ (Nat.lt_of_lt_of_le (Heap.lt_size o3.2.2.choose_spec) (q ▸ hb))⟩) (by walk_at "room") (by walk_at "room") fun h4 tk4 r V4 T4 hr => ?_
    obtain ⟨F4, K4⟩ := F3.evo V4 T4
    have o4 := o3.lk K4
    have ha := (facto_spec u).2.1
    have hfl := (facto_spec u).2.2
    repeat walk_at "go"
    rename_i h5 it F5 K5 it5
    obtain ⟨I1, hI1⟩ := inv_of fun n s => ∀ Cc : Prop, (∀ hh tk m i its T, s = ⟨hh, #[], d, tk, os⟩ → Fx w.params Z h L hh m → m (Str.ofString "turns") = some (.ref x) → Ol Z h hh x its → Items (Zx Z x) hh T its → WsIt h (Zx Z x) hh it (facto u) i → T = ((facto u).take i).flatMap turnsOf → i ≤ (facto u).length → n = (facto u).length - i → Cc) → Cc
    refine codeAny_forLoop I1 ?_ (facto u).length ((hI1 _ _).2 fun _ q => q _ _ _ 0 [] [] rfl F5 rfl (by x_close) .nil it5 rfl (by lia) (by lia))
    intro n s hs
    refine (hI1 _ _).1 hs _ fun hh tk m i its T er1 F6 hm o6 I6 it6 eT hi hn => ?_
    clear hs
    subst er1
    by_cases hlt : i < (facto u).length
    · refine next_wsx F6 it6 hlt fun h7 l F7 K7 it7 hl => ?_
      have hl' := hl.wk
      have o7 := o6.lcL K7
      have I7 := I6.lcL K7.sub
      have hlen : (facto u)[i].length ≤ u.length := Nat.le_trans (mem_len (List.getElem_mem hlt)) (Nat.le_of_eq (congrArg _ hfl))
      have hTl : T.length ≤ u.length := by
        rw [eT, turnsOf_len]
        exact Nat.le_trans (take_flat_len _ _) (Nat.le_of_eq (congrArg _ hfl))
      have hIl : its.length = T.length := I6.length
      repeat walk_at "go"
      rename_i h8 F8 K8 tk8 tk8' h9 r9 tk9 F9 K9 rg9 h10 it10 F10 K10 rit10 hn10
      have o10 : Ol Z h h10 x its := by x_close
      have ro : RIt h (Zx Z x) h10 it10 0 (facto u)[i].length := by have := rit10.nw (show Ol Z h h9 x its by x_close) hn10; simpa using this
      obtain ⟨I2, hI2⟩ := inv_of fun k s => ∀ Cc : Prop, (∀ hh tk m2 j its2 T2, s = ⟨hh, #[], d, tk, os⟩ → Fx w.params Z h L hh m2 → m2 (Str.ofString "turns") = some (.ref x) → m2 (Str.ofString "part") = some (.ref l) → Ol Z h hh x its2 → Items (Zx Z x) hh T2 its2 → WsIt h (Zx Z x) hh it (facto u) (i + 1) → Wd (Zx Z x) hh (facto u)[i] l → RIt h (Zx Z x) hh it10 j k → T2 = T ++ (List.range j).map (fun a => (facto u)[i].drop a ++ (facto u)[i].take a) → j + k = (facto u)[i].length → Cc) → Cc
      refine codeAny_forLoop I2 ?_ (facto u)[i].length
        ((hI2 _ _).2 fun _ q => q _ _ _ 0 its T rfl F10 hm rfl o10 (by x_close) (by x_close) (by x_close) ro (by simp) (by lia))
      intro k s hs
      refine (hI2 _ _).1 hs _ fun hh2 tk2 m2 j its2 T2 er1 F11 q1 q2 o11 I11 it11 hp11 rit11 eT2 hjk => ?_
      clear hs
      subst er1
      cases k with
      | zero =>
        refine next_rex F11 rit11 ‹_› fun h12 F12 K12 => ?_
        repeat walk_at "go"
        exact ⟨(facto u).length - (i + 1), by lia, (hI1 _ _).2 fun _ q => q _ _ _ (i + 1) _ _ rfl F12 q1 (by x_close) (by x_close) (by x_close) (by rw [eT2, show j = (facto u)[i].length by lia, eT, List.take_succ_eq_append_getElem hlt, List.flatMap_append, List.flatMap_singleton]; rfl) (by lia) rfl⟩
      | succ k =>
        have hIl2 : its2.length = T2.length := I11.length
        have hTl2 : T2.length = T.length + j := by rw [eT2]; simp
        refine next_rx F11 rit11 fun h12 tk12 tk12' F12 K12 rit12 => ?_
        have hp' := hp11.wk
        repeat walk_at "go"
        rename_i h13 F13 K13 h14 c14 F14 K14 W14 n14 h15 c15 F15 K15 W15 n15 h16 c16 F16 K16 W16 n16 h17 F17 K17 o17
        rw [slc_from, slc_upto] at W16
        have o15 : Ol Z h h15 x its2 := by x_close
        exact ⟨k, by lia, (hI2 _ _).2 fun _ q => q _ _ _ (j + 1) (its2 ++ [.ref c16]) (T2 ++ [(facto u)[i].drop j ++ (facto u)[i].take j]) rfl F17 q1 q2 o17 (Items.append (by x_close) (.cons ((W16.nx o15 n16).lk K17) .nil)) (by x_close) (by x_close) (by x_close) (by rw [eT2, List.range_succ, List.map_append]; simp) (by lia)⟩
    · refine next_wsex F6 it6 hlt ‹_› fun h7 F7 K7 => ?_
      have o7 := o6.lcL K7
      have I7 := I6.lcL K7.sub
      have hT : T = turns0 u := by rw [eT, List.take_of_length_le (by lia)]; rfl
      have hTl : T.length = u.length := by rw [eT, List.take_of_length_le (by lia), turnsOf_len, hfl]
      have hIl : its.length = T.length := I7.length
      repeat walk_at "go"
      show wpAny _ _ (call (.ref 35) [.ref 65]) _ _ _
      refine w_ctk (Z := Z) F7.gd F7.zf (by walk_at "room") (by walk_at "room") fun h8 tk8 a8 ns md f0 f1 c fd0 fd1 es V8 T8 KC8 => ?_
      obtain ⟨F8, K8⟩ := F7.evo V8 T8
      have o8 := o7.lk K8
      have I8 := I7.lk K8.sub
      repeat walk_at "go"
      show wpAny _ _ (call (.builtin "sorted") [.ref x] [(Str.ofString "key", .ref a8)]) _ _ _
      obtain ⟨n8, e8⟩ := o8.at_
      refine s_sorted (vs := its) (sc_K (ci := fun i j => if T.getD i [] ++ T.getD j [] = T.getD j [] ++ T.getD i [] then 0 else if llt (T.getD i [] ++ T.getD j []) (T.getD j [] ++ T.getD i []) then -1 else 1) (lt := fun i j => llt (pre 24 (T.getD i [])) (pre 24 (T.getD j []))) (vs := its)
        F8.kx T8 KC8 ?hd ?hu (F8.kx 65 _ (show List.lookup 65 (KT w.params) = some { cls := .type "function", data := .func (fdOf w.params 65) } by kernel_rfl)) rfl (kt_tab w.params (show List.lookup 65 (KT w.params) = some { cls := .type "function", data := .func (fdOf w.params 65) } by kernel_rfl)) (fun v hv => ?hin) (SW_key _) (fun i j hi hj => ?hci) (fun h9 i j v v' t9 C E9 Q9 V9 T9 c1 c2 hv hv' q9 => ?hcmp)) T8 (IsL.isList e8) (by lia) (by lia) fun h9 c9 tk9 r9 V9 T9 hr9 l9 => ?hend
      case hd => show A.depth + 1 < 800; lia
      case hu => show A.units + 3 + 1 + 1 < 8000; lia
      case hin => exact I8.hin v hv
      case hci =>
        have f1 := turns0_ne (w := u) (u := T.getD i []) (by rw [← hT, getD_get T i (by lia)]; exact List.getElem_mem _)
        have f2 := turns0_ne (w := u) (u := T.getD j []) (by rw [← hT, getD_get T j (by lia)]; exact List.getElem_mem _)
        exact endless_lt f1.1 f2.1 (by lia)
      case hcmp =>
        have hi := (List.getElem?_eq_some_iff.mp hv).1
        have hj := (List.getElem?_eq_some_iff.mp hv').1
        have f1 := turns0_ne (w := u) (u := T.getD i []) (by rw [← hT, getD_get T i (by lia)]; exact List.getElem_mem _)
        have f2 := turns0_ne (w := u) (u := T.getD j []) (by rw [← hT, getD_get T j (by lia)]; exact List.getElem_mem _)
        obtain ⟨l1, g1, w1⟩ := I8.get i (by lia)
        obtain ⟨l2, g2, w2⟩ := I8.get j (by lia)
        rw [hv] at g1; cases g1
        rw [hv'] at g2; cases g2
        rw [← getD_get T i (by lia)] at w1
        rw [← getD_get T j (by lia)] at w2
        have k9 : Lk (Zx Z x) h8 h9 := Lk.evo T8 V9
        refine w_endl (Z := fun _ => True) ((w1.lk k9).imp fun _ _ _ _ => trivial) ((w2.lk k9).imp fun _ _ _ _ => trivial) (by lia) (F8.gd.evo V9 T9) (fun _ _ => trivial) (by rw [c1]; show A.depth + 1 + 1 < _; lia) (Nat.lt_of_le_of_lt c2 (by show A.units + 3 + 1 + 1 + 20 < _; lia)) fun h10 tk10 tk10' V10 T10 => q9 _ _ _ V10 T10
      case hend =>
        obtain ⟨F9, K9⟩ := F8.evo V9 T9
        have W9 : Wds Z h9 (turnsF 24 u) r9 := by
          refine ⟨F8.zf _ hr9, _, _, l9, ?_⟩
          rw [List.toList_toArray, hIl]
          have := ((I8.lk (Lk.evo T8 V9)).imp (Z' := Z) fun _ _ z _ => z.1).pick (srt (fun i j => llt (pre 24 (T.getD i [])) (pre 24 (T.getD j []))) T.length) fun i hi => List.mem_range.mp ((srt_SS (SW_key _) _).1.mem_iff.mp hi)
          unfold turnsF sortBy
          rw [← hT]
          exact this
        repeat walk_at "go"
        exact hq _ _ _ (Fx.ev (by assumption)) (Fx.tb (by assumption)) W9
theorem c_turns {h₀ : Heap} {L : Addr} {m : Str → Option Value} (F : Fx w.params Z h₀ L h m) {u : W} {a : Addr} (hu : Wd Z h u a) (h1 : 1 ≤ u.length) (h2 : u.length ≤ 12) (hh : A.handled = none) {Q : Value → Shared → Prop} (hd : A.depth < 440) (hA : A.units < 4400)
   (hq : ∀ h' tk r, Fx w.params Z h₀ L h' m → Lk Z h h' → Wds Z h' (turnsF 24 u) r → Q (.ref r) ⟨h', #[], d, tk, os⟩) :
   wpAny (model Challenge.pw_sn0002_01 w) A (call (.ref 72) [.ref a]) Q E ⟨h, #[], d, t, os⟩ :=
  w_turns hu h1 h2 hh F.gd F.zf hd hA fun h' tk r e T => let ⟨a, b⟩ := F.evo e T; hq h' tk r a b
end
end

section
-- part W7
section
variable {w : World} {A : Around} {E : Value → Shared → Prop} {h : Heap} {d : Drawn} {t : Nat} {os : OsState} {M : Model} {env : Env} {s : Shared} {Z : Addr → Prop}
theorem endsF_get (u : W) (i n : Nat) (hi : i < (endsF 24 u).length) (hi' : i < (turnsF 24 u).length) (hn : n < ((turnsF 24 u)[i]).length) (e : n = ((turnsF 24 u)[i]).length - 1) : (endsF 24 u)[i] = ((turnsF 24 u)[i])[n] := by
  have : (endsF 24 u)[i]? = some (((turnsF 24 u)[i])[n]) := by
    unfold endsF
    rw [List.getElem?_map, List.getElem?_eq_getElem hi']
    simp only [Option.map_some, List.getD_eq_getElem?_getD, ← e, List.getElem?_eq_getElem hn, Option.getD_some]
  rw [List.getElem?_eq_getElem hi] at this
  exact Option.some.inj this
theorem w_ends {u : W} {a : Addr} (hu : Wd Z h u a) (h1 : 1 ≤ u.length) (h2 : u.length ≤ 12) (hh : A.handled = none) {Q : Value → Shared → Prop} (G : Gd w.params h) (hz : ∀ b, h.objs.size ≤ b → Z b) (hd : A.depth < 420) (hA : A.units < 4200)
   (hq : ∀ h' tk r, Evo h h' → Tb h' → Wd Z h' (endsF 24 u) r → Q (.ref r) ⟨h', #[], d, tk, os⟩) :
   wpAny (model Challenge.pw_sn0002_01 w) A (call (.ref 77) [.ref a]) Q E ⟨h, #[], d, t, os⟩ := by
  have hR : recursionLimit = 1000 := rfl
  refine' fcallF (binds := [(Str.ofString "word", .ref a)]) (Z := Z) G hz ?ho (by lia) ?hcd ?hbody ?hbind ?hloc ?hcell ?hk ?hco ?hgen ?hg ?hb ?hq
  case ho => kernel_rfl
  case hbody => exact rfl
  case hbind => (refine BindsTo.of_eq ?_; kernel_rfl)
  case hk => kernel_rfl
  case hco => kernel_rfl
  case hgen => kernel_rfl
  case hg => kernel_rfl
  case hb => kernel_rfl
  case hcell => kernel_rfl
  case hloc => kernel_rfl
  case hcd => exact ⟨76, objAt w.params 76, _, _, rfl, G.k 76 _ (by kernel_rfl), rfl, rfl⟩
  case hq =>
    intro h₁ L F K t₁ env I
    refine wpAny_execs_cons (wpAny_Return_some ?_)
    refine' lcW (g := #[]) (d := d) (os := os) (Z := Z) (L := L) (h₀ := h) (ws := endsF 24 u) rfl ?c1 rfl ?c2 ?c3 ?c4 ‹_› ?_
    case c1 => kernel_rfl
    case c2 => kernel_rfl
    case c3 => kernel_rfl
    case c4 => kernel_rfl
    repeat walk_at "go"
    show wpAny _ _ (call (.ref 72) [.ref a]) _ _ _
    refine c_turns F (hu.lk K) h1 h2 ‹_› (by walk_at "room") (by walk_at "room") fun h2' tk2 r F2 K2 w2 => ?_
    obtain ⟨z, its, n, l2, I2⟩ := id w2
    have hlen := I2.length
    have he : (endsF 24 u).length = (turnsF 24 u).length := by unfold endsF; rw [List.length_map]
    rw [Array.length_toList] at hlen
    have hTl : (turnsF 24 u).length = u.length := by
      rw [show (turnsF 24 u).length = (turns0 u).length from (sortBy_perm 24 _).length_eq]
      have := turnsOf_len (facto u)
      rw [(facto_spec u).2.2] at this
      exact this
    repeat walk_at "go"
    refine ⟨h2', _, _, r, its, rfl, rfl, F2, l2.isList, by lia, by lia, fun i hi hw h3 tk3 env' E' F3 K3 hnm Q' hq' => ?_, fun h3 D tk3 F3 K3 W3 n3 => ?_⟩
    · obtain ⟨l, g1, w1⟩ := I2.get i (by lia)
      have g2 : its[i] = .ref l := by rw [Array.getElem?_toList, Array.getElem?_eq_getElem hi] at g1; exact Option.some.inj g1
      rw [g2] at hnm
      have ne : (turnsF 24 u)[i] ≠ [] ∧ (turnsF 24 u)[i].length ≤ u.length := turns0_ne ((sortBy_perm 24 _).mem_iff.mp (List.getElem_mem _))
      have nl : 1 ≤ (turnsF 24 u)[i].length := by cases q : (turnsF 24 u)[i] with | nil => exact absurd q ne.1 | cons => simp
      have w3 := w1.lk K3
      repeat (first | (refine hnm _ _ _ _ ?_) | walk_at "go")
      rename_i n4 tk4 hn4 hk4
      have e : (endsF 24 u)[i] = (turnsF 24 u)[i][n4] := endsF_get u i n4 hw (by lia) hn4 (by lia)
      rw [← e]
      exact hq' _ _
    · repeat walk_at "go"
      exact hq _ _ _ (Fx.ev (by assumption)) (Fx.tb (by assumption)) W3
theorem c_ends {h₀ : Heap} {L : Addr} {m : Str → Option Value} (F : Fx w.params Z h₀ L h m) {u : W} {a : Addr} (hu : Wd Z h u a) (h1 : 1 ≤ u.length) (h2 : u.length ≤ 12) (hh : A.handled = none) {Q : Value → Shared → Prop} (hd : A.depth < 420) (hA : A.units < 4200)
   (hq : ∀ h' tk r, Fx w.params Z h₀ L h' m → Lk Z h h' → Wd Z h' (endsF 24 u) r → Q (.ref r) ⟨h', #[], d, tk, os⟩) :
   wpAny (model Challenge.pw_sn0002_01 w) A (call (.ref 77) [.ref a]) Q E ⟨h, #[], d, t, os⟩ :=
  w_ends hu h1 h2 hh F.gd F.zf hd hA fun h' tk r e T => let ⟨a, b⟩ := F.evo e T; hq h' tk r a b
end
end

section
-- part W8
section
variable {w : World} {A : Around} {E : Value → Shared → Prop} {h : Heap} {d : Drawn} {t : Nat} {os : OsState} {M : Model} {env : Env} {s : Shared} {Z : Addr → Prop}
theorem any_nat (g : List Nat) (p : Nat) : (g.map Int.ofNat).any (· == (p : Int)) = decide (p ∈ g) := by
  rw [Bool.eq_iff_iff]
  simp only [List.any_eq_true, List.mem_map, beq_iff_eq, decide_eq_true_eq]
  constructor
  · rintro ⟨_, ⟨q, hq, rfl⟩, h⟩
    have : q = p := by have : (q : Int) = p := h; lia
    exact this ▸ hq
  · exact fun h => ⟨_, ⟨p, h, rfl⟩, rfl⟩
theorem clo79 {env : Env} {c : Addr} {k : ScopeKind} {a1 a2 : Bool} {more : _} (h : env.cells.lookup (Str.ofString "ends") = some c) : closureFor { kind := k, names := [(Str.ofString "p", NameKind.local), (Str.ofString "q", NameKind.local), (Str.ofString "ends", NameKind.free)], isGenerator := a1, isCoroutine := a2, more := more } env = pure [(Str.ofString "ends", c)] := by
  have e : cellOf env (Str.ofString "ends") = pure c := by unfold cellOf; rw [h]
  unfold closureFor
  simp only [List.forIn_cons, List.forIn_nil]
  rw [e]
  rfl
theorem w_back {e : W} {a : Addr} (hu : Wd Z h e a) (h1 : 1 ≤ e.length) (h2 : e.length ≤ 12) (hh : A.handled = none) {Q : Value → Shared → Prop} (G : Gd w.params h) (hz : ∀ b, h.objs.size ≤ b → Z b) (hd : A.depth < 420) (hA : A.units < 4200)
   (hq : ∀ h' tk r, Evo h h' → Tb h' → Wd Z h' (backF e) r → Q (.ref r) ⟨h', #[], d, tk, os⟩) :
   wpAny (model Challenge.pw_sn0002_01 w) A (call (.ref 84) [.ref a]) Q E ⟨h, #[], d, t, os⟩ := by
  have hR : recursionLimit = 1000 := rfl
  refine' fcallC (x := Str.ofString "ends") (Z := Z) G hz ?ho (by lia) ?hcd ?hbody ?hbind ?hx ?hcells ?hk ?hco ?hgen ?hg ?hb ?hclo ?hq
  case ho => kernel_rfl
  case hbody => exact rfl
  case hbind => kernel_rfl
  case hx => kernel_rfl
  case hcells => intro n; kernel_rfl
  case hk => kernel_rfl
  case hco => kernel_rfl
  case hgen => kernel_rfl
  case hg => kernel_rfl
  case hb => kernel_rfl
  case hclo => kernel_rfl
  case hcd => exact ⟨83, objAt w.params 83, _, _, rfl, G.k 83 _ (by kernel_rfl), rfl, rfl⟩
  case hq =>
    intro h₁ L c F K hc hLc hcn t₁ env I hce
    have ecode : env.code = .ref 83 := I.co.trans (by kernel_rfl)
    have hqual : env.qual ++ Str.ofString "<lambda>" = Str.ofString "_law_back.<locals>.<lambda>" := by rw [I.qu]; kernel_rfl
    have hcl : env.cells.lookup (Str.ofString "ends") = some c := by rw [hce]; rfl
    have cl1 : CL Z h₁ c (.ref a) := ⟨hLc, hc⟩
    have hw := hu.lk K
    repeat (first | ((with_reducible show wpAny _ _ (eval (.Lambda _ _ _ _) _) _ _ _); refine' mkLam (w := w) (cc := 83) (P := 79) (l := 81) (k := 58) (qn := Str.ofString "_law_back.<locals>.<lambda>") (by assumption) (.inr (.inl rfl)) (fun _ T => T.t79) (fun T => put79 T) ecode I.gs I.bs (clo79 hcl) ?hdef hqual ?hl ?hk ?_; (case hdef => rfl); (case hl => rfl); (case hk => rfl); intro _ _ _ _ _ _ _ _ _) | walk_at "go")
    rename_i tk2 tk3 h2 r2 tk4 F2 K2 rg2 h3 c3 tk5 F3 K3 w3 n3 h4 tk6 f fd F4 K4 of4 fe4 nt4
    show wpAny _ _ (call (.ref 35) [.ref f]) _ _ _
    refine w_ctk (Z := Z) F4.gd F4.zf (by walk_at "room") (by walk_at "room") fun h5 tk7 a5 ns md f0 f1 cc fd0 fd1 es V5 T5 KC5 => ?_
    obtain ⟨F5, K5⟩ := F4.evo V5 T5
    repeat walk_at "go"
    show wpAny _ _ (call (.builtin "sorted") [.ref c3] [(Str.ofString "key", .ref a5)]) _ _ _
    have w5 : Wd Z h5 ((List.range e.length).map Int.ofNat) c3 := by have := (w3.lk K4).lk K5; simpa using this
    obtain ⟨z5, its, n5, l5, I5⟩ := id w5
    have hlen := I5.length
    rw [List.length_map, List.length_range] at hlen
    have cl5 : CL Z h5 c (.ref a) := by x_close
    have hw5 : Wd Z h5 e a := by x_close
    have of5 := V5.1 _ _ of4 nt4
    have fe5 := fe4.lk (Lk.evo F4.tb V5)
    have vi : ∀ {i v}, its.toList[i]? = some v → i < e.length ∧ ∃ ti, v = .int (i : Nat) ti := fun {i v} hv => by
      have hi : i < its.toList.length := (List.getElem?_eq_some_iff.mp hv).1
      obtain ⟨ti, g1⟩ := I5.get i (by simpa using (by lia : i < e.length))
      rw [hv] at g1
      exact ⟨by lia, ti, by simpa using g1⟩
    refine s_sorted (vs := its.toList) (sc_K (ci := fun i j => e.getD i 0 - e.getD j 0) (lt := fun p q => decide (e.getD p 0 < e.getD q 0)) (vs := its.toList)
      F5.kx T5 KC5 ?hd ?hu of5 rfl nt4 (fun v hv => ?hin) (SW_int _) (fun i j hi hj => ?hci) (fun h9 i j v v' t9 C E9 Q9 V9 T9 c1 c2 hv hv' q9 => ?hcmp)) T5 (IsL.isList l5) (by lia) (by lia) fun h9 c9 tk9 r9 V9 T9 hr9 l9 => ?hend
    case hd => show A.depth + 1 < 800; lia
    case hu => show A.units + 3 + 1 + 1 < 8000; lia
    case hin =>
      obtain ⟨i, hi⟩ := List.getElem?_of_mem hv
      obtain ⟨_, ti, rfl⟩ := vi hi
      rfl
    case hci => exact decide_eq_decide.mpr (by lia)
    case hcmp =>
      obtain ⟨hi, ti, rfl⟩ := vi hv
      obtain ⟨hj, tj, rfl⟩ := vi hv'
      have k9 : Lk Z h5 h9 := Lk.evo T5 V9
      refine w_lam (Z := fun _ => True) (F5.gd.evo V9 T9) (fun _ _ => trivial) (V9.1 _ _ of5 nt4) (fe5.lk (Lk.evo T5 V9)) ?lc ((hw5.lk k9).imp fun _ _ _ _ => trivial) hi hj (by lia) (by rw [c1]; show A.depth + 1 + 1 < _; lia) (fun fd x y e1 e2 => ?lb) (by kernel_rfl) (by kernel_rfl) (by kernel_rfl) (by kernel_rfl) (by kernel_rfl) (by kernel_rfl) (by kernel_rfl) fun h10 tk10 tk10' V10 T10 => q9 _ _ _ V10 T10
      case lc => exact let ⟨_, o, e1, e2⟩ := cl5.lk k9; ⟨trivial, o, e1, e2⟩
      case lb =>
        obtain ⟨n, q, pa, bo, sc, gl, cl, de, kd, dc, py, an, co, ct, bu⟩ := fd
        dsimp only at e1 e2
        subst e1 e2
        kernel_rfl
    case hend =>
      obtain ⟨F9, K9⟩ := F5.evo V9 T9
      have W9 : Wd Z h9 ((orderF e).map Int.ofNat) r9 := by
        refine ⟨F5.zf _ hr9, _, _, l9, ?_⟩
        rw [List.toList_toArray, hlen]
        have hm : ∀ i ∈ srt (fun p q => decide (e.getD p 0 < e.getD q 0)) e.length, i < e.length := fun i hi => List.mem_range.mp ((srt_SS (SW_int fun i => e.getD i 0) _).1.mem_iff.mp hi)
        have := I5.pick (srt (fun p q => decide (e.getD p 0 < e.getD q 0)) e.length) fun i hi => by simpa using hm i hi
        have e1 : (srt (fun p q => decide (e.getD p 0 < e.getD q 0)) e.length).map (fun i => ((List.range e.length).map Int.ofNat).getD i 0) = (orderF e).map Int.ofNat := by
          unfold orderF
          refine List.map_congr_left fun i hi => ?_
          rw [List.getD_eq_getElem?_getD, List.getElem?_map, List.getElem?_range (hm i hi)]
          rfl
        rw [e1] at this
        exact this
      have cl9 : CL Z h9 c (.ref a) := by x_close
      have hw9 : Wd Z h9 e a := by x_close
      repeat walk_at "go"
      rename_i ha Fa Ka hb cw Fb Kb ilb wdb wdsb nb kpb hc1 Fc Kc hg x Fg Kg ilg wdg wdsg ng kpg hg2 Fg2 Kg2 tka tka' hr rr tkr Fr1 Kr rgr hi it Fi Ki riti ni
      have og : Ol Z h hg x [] := ⟨wdg.1, new_old Fc ng, 0, ilg⟩
      have ogr : Ol Z h hr x [] := (og.lk Kg2).lk Kr
      have ogi : Ol Z h hi x [] := ogr.lk Ki
      have ord1 : Wd (Zx Z x) hc1 ((orderF e).map Int.ofNat) r9 := Wd.st ng (by x_close)
      have ends1 : Wd (Zx Z x) hc1 e a := Wd.st ng (by x_close)
      have cell1 : CL (Zx Z x) hc1 c (.ref a) := CL.st ng (by x_close)
      have word1 : Wd (Zx Z x) hc1 [] cw := Wd.st ng (by x_close)
      have riti1 : RIt h (Zx Z x) hi it 0 e.length := by have := riti.nw ogr ni; simpa using this
      have hordl : (orderF e).length = e.length := by have := (srt_SS (SW_int fun i => e.getD i 0) e.length).1.length_eq; rw [List.length_range] at this; exact this
      have ofO := ord_fO e
      have hol : ((orderF e).map Int.ofNat).length = e.length := by rw [List.length_map, hordl]
      obtain ⟨I2, hI2⟩ := inv_of fun k s => ∀ Cc : Prop, (∀ hh tk m wa its gone wd i, s = ⟨hh, #[], d, tk, os⟩ → Fx w.params Z h L hh m → m (Str.ofString "gone") = some (.ref x) → m (Str.ofString "word") = some (.ref wa) → m (Str.ofString "order") = some (.ref r9) → Ol Z h hh x its → Ints its (gone.map Int.ofNat) → Wd (Zx Z x) hh wd wa → Wd (Zx Z x) hh ((orderF e).map Int.ofNat) r9 → Wd (Zx Z x) hh e a → CL (Zx Z x) hh c (.ref a) → RIt h (Zx Z x) hh it i k → (gone, wd) = (List.range i).foldl (backStep e (fO e)) ([], []) → gone.Nodup → (∀ q ∈ gone, q < e.length) → wd.length ≤ 13 * i → i + k = e.length → Cc) → Cc
      refine codeAny_forLoop I2 ?_ e.length
        ((hI2 _ _).2 fun _ q => q _ _ _ cw [] [] [] 0 rfl Fi rfl rfl rfl ogi .nil (by x_close) (by x_close) (by x_close) (by x_close) riti1 rfl .nil (fun _ hq => nomatch hq) (by simp) (by lia))
      intro k s hs
      refine (hI2 _ _).1 hs _ fun hh tk m wa its gone wd i er1 F1 m1 m2 m3 o1 i1 wd1 or1 en1 ce1 ri1 eq1 nd1 lt1 le1 ik => ?_
      clear hs
      subst er1
      cases k with
      | zero =>
        refine next_rex F1 ri1 ‹_› fun h12 F12 K12 => ?_
        have hie : i = e.length := by lia
        have wd12 : Wd Z h12 (backF e) wa := by
          have : wd = backF e := by unfold backF backG; rw [← hie, ← eq1]
          rw [← this]
          exact Wd.wk (x := x) (by x_close)
        repeat walk_at "go"
        exact hq _ _ _ (Fx.ev (by assumption)) (Fx.tb (by assumption)) (by x_close)
      | succ k =>
        refine next_rx F1 ri1 fun h12 tk12 tk12' F12 K12 ri12 => ?_
        have o12 := o1.lcR K12
        repeat walk_at "go"
        rename_i h13 F13 K13 h14 y F14 K14 il14 wd14 wds14 n14 kp14 h15 F15 K15 h16 F16 K16
        have o13 := o12.lk K13
        have o14 : Ol (Zx Z y) h h14 x its := (o13.st n14).lk K14.sub
        have p14 : Ol (Zx Z x) h h14 y [] := ⟨⟨wd14.1, o13.ne n14⟩, new_old F13 n14, 0, il14⟩
        have or13 : Wd (Zx (Zx Z x) y) h13 ((orderF e).map Int.ofNat) r9 := Wd.st n14 (by x_close)
        have en13 : Wd (Zx (Zx Z x) y) h13 e a := Wd.st n14 (by x_close)
        have ce13 : CL (Zx (Zx Z x) y) h13 c (.ref a) := CL.st n14 (by x_close)
        have wd13 : Wd (Zx (Zx Z x) y) h13 wd wa := Wd.st n14 (by x_close)
        have ri13 : RIt h (Zx (Zx Z x) y) h13 it (i + 1) k := RIt.st n14 (by x_close)
        have xy : x ≠ y := Ne.symm (o13.ne n14)
        have gl : gone.length ≤ e.length := by have := nodup_len' gone (List.range e.length) nd1 (fun q hq => List.mem_range.mpr (lt1 q hq)); simpa using this
        obtain ⟨I3, hI3⟩ := inv_of fun n s => ∀ Cc : Prop, (∀ hh tk m p tp itg itp g pt, s = ⟨hh, #[], d, tk, os⟩ → Fx w.params Z h L hh m → m (Str.ofString "gone") = some (.ref x) → m (Str.ofString "part") = some (.ref y) → m (Str.ofString "place") = some (.int ((p : Nat) : Int) tp) → m (Str.ofString "word") = some (.ref wa) → m (Str.ofString "order") = some (.ref r9) → Ol (Zx Z y) h hh x itg → Ints itg (g.map Int.ofNat) → Ol (Zx Z x) h hh y itp → Ints itp pt → Wd (Zx (Zx Z x) y) hh wd wa → Wd (Zx (Zx Z x) y) hh ((orderF e).map Int.ofNat) r9 → Wd (Zx (Zx Z x) y) hh e a → CL (Zx (Zx Z x) y) hh c (.ref a) → RIt h (Zx (Zx Z x) y) hh it (i + 1) k → ringF e (fO e) n p g pt = ringF e (fO e) (e.length + 1) i gone [] → e.length + 1 ≤ n + g.length → g.Nodup → (∀ q ∈ g, q < e.length) → p < e.length → pt.length + n ≤ e.length + 1 → Cc) → Cc
        refine codeAny_whileLoop I3 ?_ (e.length + 1)
          ((hI3 _ _).2 fun _ q => q _ _ _ i _ its [] gone [] rfl F16 m1 rfl rfl m2 m3 (by x_close) i1 (by x_close) .nil (by x_close) (by x_close) (by x_close) (by x_close) (by x_close) rfl (by lia) nd1 lt1 (by lia) (by simp))
        intro n s hs
        refine (hI3 _ _).1 hs _ fun hh2 tk2 m' p tp itg itp g pt er1 F2 q1 q2 q3 q4 q5 og2 ig2 op2 ip2 wd2 or2 en2 ce2 ri2 er hf nd2 lt2 hp hpt => ?_
        clear hs
        subst er1
        have og2' := og2.wk
        have op2' := op2.wk
        have gl2 : g.length ≤ e.length := by have := nodup_len' g (List.range e.length) nd2 (fun q hq => List.mem_range.mpr (lt2 q hq)); simpa using this
        have igl : itg.length = g.length := by have := ig2.length; rw [List.length_map] at this; exact this
        have ipl : itp.length = pt.length := ip2.length
        have hmem : (g.map Int.ofNat).any (· == (p : Int)) = decide (p ∈ g) := any_nat g p
        obtain ⟨n', rfl⟩ : ∃ n', n = n' + 1 := ⟨n - 1, by lia⟩
        repeat walk_at "go"
        rw [hmem]
        refine pite (fun hcn => ?_) fun hcn => ?_
        · have hpg : p ∉ g := by simpa using hcn
          repeat walk_at "go"
          rename_i h17 F17 K17 og17
          have or17 : Wd (Zx (Zx Z x) y) h17 ((orderF e).map Int.ofNat) r9 := by x_close
          have en17 : Wd (Zx (Zx Z x) y) h17 e a := by x_close
          have ce17 : CL (Zx (Zx Z x) y) h17 c (.ref a) := by x_close
          have or17' := or17.wk.wk
          have en17' := en17.wk.wk
          have ce17' := ce17.wk.wk
          repeat ((fail_if_success (with_reducible show wpAny _ _ (eval (.Subscript (.Name (Str.ofString "ends") _) _ _) _) _ _ _)); walk_at "go")
          rename_i n17 tk17 hn17 hk17 h18 F18 K18
          have hval : ((orderF e).map Int.ofNat)[n17] = ((fO e p : Nat) : Int) := by
            rw [List.getElem_map]
            have : n17 = p := by lia
            subst this
            unfold fO
            rw [List.getD_eq_getElem?_getD, List.getElem?_eq_getElem (by lia)]
            rfl
          have hfl : fO e p < e.length := ofO.lt p hp
          rw [hval] at F18
          have op18 : Ol (Zx Z x) h h18 y itp := by x_close
          have op18' := op18.wk
          repeat walk_at "go"
          rename_i n19 tk19 hn19 hk19 h20 F20 K20 op20
          have hval2 : e[n19] = e.getD (fO e p) 0 := by
            have : n19 = fO e p := by lia
            subst this
            rw [List.getD_eq_getElem?_getD, List.getElem?_eq_getElem hn19]
            rfl
          have er' : ringF e (fO e) n' (fO e p) (g ++ [p]) (pt ++ [e.getD (fO e p) 0]) = ringF e (fO e) (e.length + 1) i gone [] := by
            rw [← er]
            show _ = if p ∈ g then _ else _
            rw [if_neg hpg]
          refine ⟨n', by lia, (hI3 _ _).2 fun _ q => q _ _ _ (fO e p) _ (itg ++ [.int p tp]) (itp ++ [.int e[n19] tk19]) (g ++ [p]) (pt ++ [e.getD (fO e p) 0]) rfl F20 q1 q2 rfl q4 q5 ?_ ?_ (op20.sp xy.symm) ?_ (by x_close) (by x_close) (by x_close) (by x_close) (by x_close) er' (by rw [List.length_append, List.length_singleton]; lia) ?_ ?_ hfl (by rw [List.length_append, List.length_singleton]; lia)⟩
          · exact ((og17.lk K18).sp xy).lk K20
          · rw [List.map_append]; exact ig2.append (.cons .nil)
          · rw [hval2]; exact ip2.append (.cons .nil)
          · exact List.nodup_append.mpr ⟨nd2, List.nodup_cons.mpr ⟨List.not_mem_nil, .nil⟩, fun a ha b hb => by simp only [List.mem_singleton] at hb; rintro rfl; exact hpg (hb ▸ ha)⟩
          · intro q hq
            rcases List.mem_append.mp hq with hq | hq
            · exact lt2 q hq
            · rw [List.mem_singleton.mp hq]; exact hp
        · have hpg : p ∈ g := by simpa using hcn
          have hwp : Wd Z hh2 pt y := op2'.wd ip2
          have hww : Wd Z hh2 wd wa := wd2.wk.wk
          have er' : (g, pt) = ringF e (fO e) (e.length + 1) i gone [] := by
            rw [← er]
            show _ = if p ∈ g then _ else _
            rw [if_pos hpg]
          repeat walk_at "go"
          rename_i h17 c17 F17 K17 w17 n17 h18 F18 K18
          have eq2 : (g, pt ++ wd) = (List.range (i + 1)).foldl (backStep e (fO e)) ([], []) := by
            rw [List.range_succ, List.foldl_append, ← eq1]
            show _ = backStep e (fO e) (gone, wd) i
            unfold backStep
            simp only [← er']
          exact ⟨k, by lia, (hI2 _ _).2 fun _ q => q _ _ _ c17 itg g (pt ++ wd) (i + 1) rfl F18 q1 rfl q5 ((og2'.lk K17).lk K18) ig2 ((w17.nx og2' n17).lk K18.sub) (((or2.wk).lk K17.sub).lk K18.sub) (((en2.wk).lk K17.sub).lk K18.sub) (((ce2.wk).lk K17.sub).lk K18.sub) (((ri2.wk).lk K17.sub).lk K18.sub) eq2 nd2 lt2 (by rw [List.length_append]; lia) (by lia)⟩
end
end

section
-- part W9
section
variable {w : World} {A : Around} {E : Value → Shared → Prop} {h : Heap} {d : Drawn} {t : Nat} {os : OsState} {M : Model} {env : Env} {s : Shared} {Z : Addr → Prop}
theorem fge (U : W) (i n1 n2 : Nat) (h1 : n1 < (facto U).length) (h2 : n2 < (facto U).length) (e1 : n1 = i) (e2 : n2 = i + 1) : llt ((facto U)[n1]) ((facto U)[n2]) = false := by subst e1 e2; exact facto_ge U n1 h2
theorem mod3 (x : Int) : x.fmod 3 ∈ letters := by
  rw [Int.fmod_eq_emod_of_nonneg x (by decide)]
  unfold letters
  simp only [List.mem_cons, List.not_mem_nil, or_false]
  lia
theorem w_law {v : W} {a : Addr} (hu : Wl Z h v a) (hlen : v.length ≤ 100) (hh : A.handled = none) {Q : Value → Shared → Prop} (G : Gd w.params h) (hz : ∀ b, h.objs.size ≤ b → Z b) (hd : A.depth < 400) (hA : A.units < 4000)
   (hq : ∀ h' tk, Evo h h' → Tb h' → Q (.bool true) ⟨h', #[], d, tk, os⟩) :
   wpAny (model Challenge.pw_sn0002_01 w) A (call (.ref 89) [.ref a]) Q E ⟨h, #[], d, t, os⟩ := by
  have hR : recursionLimit = 1000 := rfl
  refine' fcallF (binds := [(Str.ofString "script", .ref a)]) (Z := Z) G hz ?ho (by lia) ?hcd ?hbody ?hbind ?hloc ?hcell ?hk ?hco ?hgen ?hg ?hb ?hq
  case ho => kernel_rfl
  case hbody => exact rfl
  case hbind => (refine BindsTo.of_eq ?_; kernel_rfl)
  case hk => kernel_rfl
  case hco => kernel_rfl
  case hgen => kernel_rfl
  case hg => kernel_rfl
  case hb => kernel_rfl
  case hcell => kernel_rfl
  case hloc => kernel_rfl
  case hcd => exact ⟨88, objAt w.params 88, _, _, rfl, G.k 88 _ (by kernel_rfl), rfl, rfl⟩
  case hq =>
    intro h₁ L F K t₁ env I
    have ecode : env.code = .ref 88 := I.co.trans (by kernel_rfl)
    have hqual : env.qual ++ Str.ofString "<lambda>" = Str.ofString "law.<locals>.<lambda>" := by rw [I.qu]; kernel_rfl
    repeat ((fail_if_success (with_reducible show wpAny _ _ (eval (.ListComp _ _ _ _) _) _ _ _)); (first | ((with_reducible show wpAny _ _ (call (.ref _) _ _) _ _ _); (show wpAny _ _ (call _ [_, _]) _ _ _); ((with_reducible first | refine' c_lfg (by assumption) ?x ?y ?h ?i ?_ | refine' c_gfl (by assumption) ?x ?y ?h ?i ?_); (case x => x_close); (case y => x_close); (case h => walk_at "room"); (case i => walk_at "room")); intros) | walk_at "go"))
    refine' lcW (g := #[]) (d := d) (os := os) (Z := Z) (L := L) (h₀ := h) (ws := (v.take 11).map fun x => x.fmod 3) rfl ?c1 rfl ?c2 ?c3 ?c4 ‹_› ?_
    case c1 => kernel_rfl
    case c2 => kernel_rfl
    case c3 => kernel_rfl
    case c4 => kernel_rfl
    refine slcl F (hu.lk K) (by lia) (fun Q E hq => nmL F I rfl hq (by kernel_rfl) (by kernel_rfl)) (fun _ _ => rfl) fun h2 c2 F2 K2 w2' => ?_
    obtain ⟨z2, its, n2', l2, I2⟩ := id w2'
    have il := I2.length
    rw [Array.length_toList] at il
    have vl : (v.take 11).length ≤ 11 := by rw [List.length_take]; lia
    refine ⟨h2, _, _, c2, its, rfl, rfl, F2, l2.isList, by rw [List.length_map]; lia, by lia, fun i hi hw h3 tk3 env' E' F3 K3 hnm Q' hq' => ?_, fun h3 D tk3 F3 K3 W3 n3 => ?_⟩
    · obtain ⟨ti, g1⟩ := I2.get i (by lia)
      have g2 : its[i] = .int ((v.take 11)[i]'(by lia)) ti := by rw [Array.getElem?_toList, Array.getElem?_eq_getElem hi] at g1; exact Option.some.inj g1
      rw [g2] at hnm
      repeat (first | (refine hnm _ _ _ _ ?_) | (first | ((with_reducible show wpAny _ _ (call (.ref _) _ _) _ _ _); (show wpAny _ _ (call _ [_, _]) _ _ _); ((with_reducible first | refine' c_lfg (by assumption) ?x ?y ?h ?i ?_ | refine' c_gfl (by assumption) ?x ?y ?h ?i ?_); (case x => x_close); (case y => x_close); (case h => walk_at "room"); (case i => walk_at "room")); intros) | walk_at "go"))
      have e : ((v.take 11).map fun x => x.fmod 3)[i] = ((v.take 11)[i]'(by lia)).fmod 3 := List.getElem_map ..
      rw [← e]
      exact hq' _ _
    · have wl : ((v.take 11).map fun x => x.fmod 3).length ≤ 11 := by rw [List.length_map]; exact vl
      have sc3 : Wl Z h3 v a := ((hu.lk K).lk K2).lk K3
      repeat (first | ((with_reducible show wpAny _ _ (call (.ref _) _ _) _ _ _); (show wpAny _ _ (call _ [_, _]) _ _ _); ((with_reducible first | refine' c_lfg (by assumption) ?x ?y ?h ?i ?_ | refine' c_gfl (by assumption) ?x ?y ?h ?i ?_); (case x => x_close); (case y => x_close); (case h => walk_at "room"); (case i => walk_at "room")); intros) | walk_at "go")
      rename_i h4 tk4 tk4' F4 K4 h5 c5 F5 K5 w5 n5 h6 wr F6 K6 w6 n6 h7 F7 K7 h8 c8 F8 K8 il8 wd8 wds8 n8 kp8
      obtain ⟨U, hU⟩ : ∃ U, U = ((v.take 11).map fun x => x.fmod 3) ++ [v.sum.fmod 3] := ⟨_, rfl⟩
      rw [← hU] at w6
      have U1 : 1 ≤ U.length := by rw [hU, List.length_append, List.length_singleton]; lia
      have U2 : U.length ≤ 12 := by rw [hU, List.length_append, List.length_singleton]; lia
      have Uw : U ∈ words U.length := (mem_words _ _).mpr ⟨rfl, fun x hx => by
        rw [hU] at hx
        rcases List.mem_append.mp hx with hx | hx
        · obtain ⟨y, _, rfl⟩ := List.mem_map.mp hx; exact mod3 y
        · rw [List.mem_singleton.mp hx]; exact mod3 _⟩
      clear hU
      show wpAny _ _ (call (.ref 44) [.ref 51, .ref wr, .ref c8]) _ _ _
      refine c_red F8 ((w6.lk K7).lk K8) wds8 (by lia) ‹_› (by walk_at "room") (by walk_at "room") fun h9 tk9 pr F9 K9 w9 => ?_
      have U9 : Wd Z h9 U wr := ((w6.lk K7).lk K8).lk K9
      repeat (first | ((with_reducible show wpAny _ _ (call (.ref _) _ _) _ _ _); (show wpAny _ _ (call _ [_, _]) _ _ _); ((with_reducible first | refine' c_lfg (by assumption) ?x ?y ?h ?i ?_ | refine' c_gfl (by assumption) ?x ?y ?h ?i ?_); (case x => x_close); (case y => x_close); (case h => walk_at "room"); (case i => walk_at "room")); intros) | walk_at "go")
      rename_i h10 F10 K10
      show wpAny _ _ (call (.ref 58) [.ref wr]) _ _ _
      refine w_cut (Z := Z) (U9.lk K10) (by lia) ‹_› F10.gd F10.zf (by walk_at "room") (by walk_at "room") fun h11 tk11 cr V11 T11 w11 => ?_
      obtain ⟨F11, K11⟩ := F10.evo V11 T11
      have p11 : Wds Z h11 (facto U) pr := (w9.lk K10).lk K11
      have U11 : Wd Z h11 U wr := (U9.lk K10).lk K11
      repeat (first | ((with_reducible show wpAny _ _ (call (.ref _) _ _) _ _ _); (show wpAny _ _ (call _ [_, _]) _ _ _); ((with_reducible first | refine' c_lfg (by assumption) ?x ?y ?h ?i ?_ | refine' c_gfl (by assumption) ?x ?y ?h ?i ?_); (case x => x_close); (case y => x_close); (case h => walk_at "room"); (case i => walk_at "room")); intros) | walk_at "go")
      have ec : (!decide (facto U = cut U)) = false := by rw [facto_eq_cut]; simp
      rw [ec]
      have fl := (facto_spec U).2.2
      have al := (facto_spec U).2.1
      have fll : (facto U).length ≤ 12 := Nat.le_trans (length_le_flatten _ al) (by rw [fl]; exact U2)
      have fl1 : 1 ≤ (facto U).length := by
        cases q : facto U with
        | nil => rw [q] at fl; rw [← fl] at U1; simp at U1
        | cons => simp
      repeat (first | ((with_reducible show wpAny _ _ (call (.ref _) _ _) _ _ _); (show wpAny _ _ (call _ [_, _]) _ _ _); ((with_reducible first | refine' c_lfg (by assumption) ?x ?y ?h ?i ?_ | refine' c_gfl (by assumption) ?x ?y ?h ?i ?_); (case x => x_close); (case y => x_close); (case h => walk_at "room"); (case i => walk_at "room")); intros) | walk_at "go")
      rename_i tka tka' hr rr tkr Fr1 Kr rgr hi it Fi Ki riti ni
      have riti' : RIt h Z hi it 0 ((facto U).length - 1) := by
        have e : ((facto U).length - 1 : Int).toNat = (facto U).length - 1 := by lia
        rw [← e]; exact riti
      obtain ⟨I2, hI2⟩ := inv_of fun k s => ∀ Cc : Prop, (∀ hh tk m i, s = ⟨hh, #[], d, tk, os⟩ → Fx w.params Z h L hh m → m (Str.ofString "parts") = some (.ref pr) → m (Str.ofString "word") = some (.ref wr) → Wds Z hh (facto U) pr → Wd Z hh U wr → RIt h Z hh it i k → i + k = (facto U).length - 1 → Cc) → Cc
      refine codeAny_forLoop I2 ?_ ((facto U).length - 1)
        ((hI2 _ _).2 fun _ q => q _ _ _ 0 rfl Fi rfl rfl (by x_close) (by x_close) riti' (by lia))
      intro k s hs
      refine (hI2 _ _).1 hs _ fun hh tk m i er1 F12 m1 m2 p12 U12 ri ik => ?_
      clear hs
      subst er1
      cases k with
      | succ k =>
        refine next_r F12 ri fun h13 tk13 tk13' F13 K13 ri13 => ?_
        repeat (first | ((with_reducible show wpAny _ _ (call (.ref _) _ _) _ _ _); (show wpAny _ _ (call _ [_, _]) _ _ _); ((with_reducible first | refine' c_lfg (by assumption) ?x ?y ?h ?i ?_ | refine' c_gfl (by assumption) ?x ?y ?h ?i ?_); (case x => x_close); (case y => x_close); (case h => walk_at "room"); (case i => walk_at "room")); intros) | walk_at "go")
        rename_i h14 F14 K14 n1 l1 hn1 e1 v1 n2 l2 hn2 e2 v2 h15 tk15 F15 K15
        have eg : (!!llt (facto U)[n1] (facto U)[n2]) = false := by rw [fge U i n1 n2 hn1 hn2 (by lia) (by lia)]; rfl
        rw [eg]
        repeat (first | ((with_reducible show wpAny _ _ (call (.ref _) _ _) _ _ _); (show wpAny _ _ (call _ [_, _]) _ _ _); ((with_reducible first | refine' c_lfg (by assumption) ?x ?y ?h ?i ?_ | refine' c_gfl (by assumption) ?x ?y ?h ?i ?_); (case x => x_close); (case y => x_close); (case h => walk_at "room"); (case i => walk_at "room")); intros) | walk_at "go")
        exact ⟨k, by lia, (hI2 _ _).2 fun _ q => q _ _ _ (i + 1) rfl F15 m1 m2 (by x_close) (by x_close) (by x_close) (by lia)⟩
      | zero =>
        refine next_re F12 ri ‹_› fun h13 F13 K13 => ?_
        have U13 : Wd Z h13 U wr := U12.lcR K13
        repeat (first | ((with_reducible show wpAny _ _ (call (.ref _) _ _) _ _ _); (show wpAny _ _ (call _ [_, _]) _ _ _); ((with_reducible first | refine' c_lfg (by assumption) ?x ?y ?h ?i ?_ | refine' c_gfl (by assumption) ?x ?y ?h ?i ?_); (case x => x_close); (case y => x_close); (case h => walk_at "room"); (case i => walk_at "room")); intros) | walk_at "go")
        show wpAny _ _ (call (.ref 72) [.ref wr]) _ _ _
        refine c_turns F13 U13 U1 U2 ‹_› (by walk_at "room") (by walk_at "room") fun h14 tk14 tr F14 K14 w14 => ?_
        have U14 := U13.lk K14
        repeat (first | ((with_reducible show wpAny _ _ (eval (.Lambda _ _ _ _) _) _ _ _); refine' mkLam (w := w) (cc := 88) (P := 86) (l := 102) (k := 34) (qn := Str.ofString "law.<locals>.<lambda>") (clo := []) (by assumption) (.inr (.inr rfl)) (fun _ T => T.t86) (fun T => put86 T) ecode I.gs I.bs ?hclo ?hdef hqual ?hl ?hk ?_; (case hclo => rfl); (case hdef => rfl); (case hl => rfl); (case hk => rfl); intro _ _ _ _ _ _ _ _ _) | (first | ((with_reducible show wpAny _ _ (call (.ref _) _ _) _ _ _); (show wpAny _ _ (call _ [_, _]) _ _ _); ((with_reducible first | refine' c_lfg (by assumption) ?x ?y ?h ?i ?_ | refine' c_gfl (by assumption) ?x ?y ?h ?i ?_); (case x => x_close); (case y => x_close); (case h => walk_at "room"); (case i => walk_at "room")); intros) | walk_at "go"))
        rename_i h15 F15 K15 h16 tk16 f fd F16 K16 of16 fe16 nt16
        show wpAny _ _ (call (.builtin "sorted") [.ref tr] [(Str.ofString "key", .ref f)]) _ _ _
        have w16 : Wds Z h16 (turnsF 24 U) tr := (w14.lk K15).lk K16
        have U16 : Wd Z h16 U wr := (U14.lk K15).lk K16
        obtain ⟨z16, its16, n16, l16, I16⟩ := id w16
        have il16 := I16.length
        have tl16 : (turnsF 24 U).length = U.length := by
          rw [show (turnsF 24 U).length = (turns0 U).length from (sortBy_perm 24 _).length_eq]
          have := turnsOf_len (facto U)
          rw [fl] at this
          exact this
        refine s_sorted (vs := its16.toList) (sc_L (q := f) (vs := its16.toList) (ξ := fun i => pre 24 ((turnsF 24 U).getD i [])) ?hu (fun Z' h17 i v hz0 hz V T hv t E Q hq => ?key)) F16.tb (IsL.isList l16) (by lia) (by lia) fun h17 c17 tk17 r17 V17 T17 hr17 l17 => ?hend
        case hu => show A.units + 3 + 1 + 1 < 8000; lia
        case key =>
          have hi : i < its16.toList.length := (List.getElem?_eq_some_iff.mp hv).1
          obtain ⟨l, g1, wi⟩ := I16.get i (by lia)
          rw [hv] at g1; cases g1
          have ne : (turnsF 24 U)[i] ≠ [] ∧ (turnsF 24 U)[i].length ≤ U.length := turns0_ne ((sortBy_perm 24 _).mem_iff.mp (List.getElem_mem _))
          refine w_lamT (Z := Z') (F16.gd.evo V T) hz (V.1 _ _ of16 nt16) (fe16.lk (Lk.evo F16.tb V)) ((wi.imp fun b o _ e => hz0 b o e).lk (Lk.evo F16.tb V)) ne.1 (by lia) (by show A.depth + 1 < 950; lia) (fun fd x e1 e2 => ?lb) (by kernel_rfl) (by kernel_rfl) (by kernel_rfl) (by kernel_rfl) (by kernel_rfl) fun h18 tk18 r18 V18 T18 w18 => hq h18 tk18 r18 V18 T18 ?_
          case lb =>
            obtain ⟨n, q, pa, bo, sc, gl, cl, de, kd, dc, py, an, co, ct, bu⟩ := fd
            dsimp only at e1 e2
            subst e1 e2
            kernel_rfl
          rw [getD_get _ i (by lia)]
          exact w18
        case hend =>
          obtain ⟨F17, K17⟩ := F16.evo V17 T17
          have W17 : Wds Z h17 (turnsF 24 U) r17 := by
            refine ⟨F16.zf _ hr17, _, _, l17, ?_⟩
            rw [List.toList_toArray, il16]
            have := (I16.lk (Lk.evo F16.tb V17)).pick (srt (fun i j => llt (pre 24 ((turnsF 24 U).getD i [])) (pre 24 ((turnsF 24 U).getD j []))) (turnsF 24 U).length) fun i hi => List.mem_range.mp ((srt_SS (SW_key _) _).1.mem_iff.mp hi)
            have e := turns_idem 24 U
            unfold sortBy at e
            rw [e] at this
            exact this
          have w17 : Wds Z h17 (turnsF 24 U) tr := w16.lk K17
          have U17 : Wd Z h17 U wr := U16.lk K17
          repeat (first | ((with_reducible show wpAny _ _ (call (.ref _) _ _) _ _ _); (show wpAny _ _ (call _ [_, _]) _ _ _); ((with_reducible first | refine' c_lfg (by assumption) ?x ?y ?h ?i ?_ | refine' c_gfl (by assumption) ?x ?y ?h ?i ?_); (case x => x_close); (case y => x_close); (case h => walk_at "room"); (case i => walk_at "room")); intros) | walk_at "go")
          have et : (!decide (turnsF 24 U = turnsF 24 U)) = false := by simp
          rw [et]
          repeat (first | ((with_reducible show wpAny _ _ (call (.ref _) _ _) _ _ _); (show wpAny _ _ (call _ [_, _]) _ _ _); ((with_reducible first | refine' c_lfg (by assumption) ?x ?y ?h ?i ?_ | refine' c_gfl (by assumption) ?x ?y ?h ?i ?_); (case x => x_close); (case y => x_close); (case h => walk_at "room"); (case i => walk_at "room")); intros) | walk_at "go")
          show wpAny _ _ (call (.ref 77) [.ref wr]) _ _ _
          refine c_ends F17 U17 U1 U2 ‹_› (by walk_at "room") (by walk_at "room") fun h18 tk18 er F18 K18 w18 => ?_
          have U18 := U17.lk K18
          have el18 : (endsF 24 U).length = U.length := by unfold endsF; rw [List.length_map, tl16]
          repeat (first | ((with_reducible show wpAny _ _ (call (.ref _) _ _) _ _ _); (show wpAny _ _ (call _ [_, _]) _ _ _); ((with_reducible first | refine' c_lfg (by assumption) ?x ?y ?h ?i ?_ | refine' c_gfl (by assumption) ?x ?y ?h ?i ?_); (case x => x_close); (case y => x_close); (case h => walk_at "room"); (case i => walk_at "room")); intros) | walk_at "go")
          show wpAny _ _ (call (.ref 84) [.ref er]) _ _ _
          refine w_back (Z := Z) w18 (by lia) (by lia) ‹_› F18.gd F18.zf (by walk_at "room") (by walk_at "room") fun h19 tk19 br V19 T19 w19 => ?_
          obtain ⟨F19, K19⟩ := F18.evo V19 T19
          have U19 := U18.lk K19
          repeat (first | ((with_reducible show wpAny _ _ (call (.ref _) _ _) _ _ _); (show wpAny _ _ (call _ [_, _]) _ _ _); ((with_reducible first | refine' c_lfg (by assumption) ?x ?y ?h ?i ?_ | refine' c_gfl (by assumption) ?x ?y ?h ?i ?_); (case x => x_close); (case y => x_close); (case h => walk_at "room"); (case i => walk_at "room")); intros) | walk_at "go")
          have eb : (!decide (backF (endsF 24 U) = U)) = false := by rw [back_ends (n := U.length) (by lia) Uw]; simp
          rw [eb]
          repeat (first | ((with_reducible show wpAny _ _ (call (.ref _) _ _) _ _ _); (show wpAny _ _ (call _ [_, _]) _ _ _); ((with_reducible first | refine' c_lfg (by assumption) ?x ?y ?h ?i ?_ | refine' c_gfl (by assumption) ?x ?y ?h ?i ?_); (case x => x_close); (case y => x_close); (case h => walk_at "room"); (case i => walk_at "room")); intros) | walk_at "go")
          show wpAny _ _ (call (.ref 84) [.ref wr]) _ _ _
          refine w_back (Z := Z) U19 U1 U2 ‹_› F19.gd F19.zf (by walk_at "room") (by walk_at "room") fun h20 tk20 br2 V20 T20 w20 => ?_
          obtain ⟨F20, K20⟩ := F19.evo V20 T20
          have U20 := U19.lk K20
          have bl : (backF U).length = U.length := ((mem_words _ _).mp (back_words Uw)).1
          repeat (first | ((with_reducible show wpAny _ _ (call (.ref _) _ _) _ _ _); (show wpAny _ _ (call _ [_, _]) _ _ _); ((with_reducible first | refine' c_lfg (by assumption) ?x ?y ?h ?i ?_ | refine' c_gfl (by assumption) ?x ?y ?h ?i ?_); (case x => x_close); (case y => x_close); (case h => walk_at "room"); (case i => walk_at "room")); intros) | walk_at "go")
          show wpAny _ _ (call (.ref 77) [.ref br2]) _ _ _
          refine c_ends F20 w20 (by lia) (by lia) ‹_› (by walk_at "room") (by walk_at "room") fun h21 tk21 er2 F21 K21 w21 => ?_
          have U21 := U20.lk K21
          repeat (first | ((with_reducible show wpAny _ _ (call (.ref _) _ _) _ _ _); (show wpAny _ _ (call _ [_, _]) _ _ _); ((with_reducible first | refine' c_lfg (by assumption) ?x ?y ?h ?i ?_ | refine' c_gfl (by assumption) ?x ?y ?h ?i ?_); (case x => x_close); (case y => x_close); (case h => walk_at "room"); (case i => walk_at "room")); intros) | walk_at "go")
          have ef : decide (endsF 24 (backF U) = U) = true := decide_eq_true (ends_back U 24 (by lia))
          rw [ef]
          exact hq _ _ (Fx.ev (by assumption)) (Fx.tb (by assumption))
end
end

end Mine
end

section
-- part FN1
open PySem PySem.W PyProof.Rows PySem.W.X
set_option maxRecDepth 100000
set_option maxHeartbeats 4000000
namespace Mine
theorem lookup_of_filter {α : Type} (f : Addr → Bool) : ∀ (l : List (Addr × α)) {b : Addr} {o : α}, List.lookup b (l.filter fun x => f x.1) = some o → List.lookup b l = some o
  | [], b, o, e => by cases e
  | x :: l, b, o, e => by
    rw [List.filter_cons] at e
    rw [List.lookup_cons]
    split at e
    · rw [List.lookup_cons] at e
      split at e
      · exact e
      · exact lookup_of_filter f l e
    · rename_i hx
      have e' := lookup_of_filter f l e
      split
      · rename_i hb
        have := lookup_filter f l e
        rw [eq_of_beq hb] at this
        exact absurd this hx
      · exact e'
noncomputable def oA (p : Params) (a : Addr) : Obj := (List.lookup a (K0 p)).getD default
theorem kt_of {p : Params} {h : Heap} (K : Frag.In (K0 p) h) : Frag.In (KT p) h := fun b o e => K b o (lookup_of_filter (fun b => b != 30 && b != 79 && b != 86) _ e)
theorem ct30 {p : Params} {h : Heap} (K : Frag.In (K0 p) h) : CT h 34 30 #[] :=
  ⟨⟨oA p 34, _, _, _, _, _, _, _, _, oA p 30, K 34 _ (by kernel_rfl), rfl, rfl, rfl, rfl, rfl, rfl, K 30 _ (by kernel_rfl), rfl, trivial, by decide⟩, ⟨oA p 34, _, K 34 _ (by kernel_rfl), rfl, rfl, rfl⟩, K 30 _ (by kernel_rfl)⟩
theorem ct79 {p : Params} {h : Heap} (K : Frag.In (K0 p) h) : CT h 83 79 #[] :=
  ⟨⟨oA p 83, _, _, _, _, _, _, _, _, oA p 79, K 83 _ (by kernel_rfl), rfl, rfl, rfl, rfl, rfl, rfl, K 79 _ (by kernel_rfl), rfl, trivial, by decide⟩, ⟨oA p 83, _, K 83 _ (by kernel_rfl), rfl, rfl, rfl⟩, K 79 _ (by kernel_rfl)⟩
theorem ct86 {p : Params} {h : Heap} (K : Frag.In (K0 p) h) : CT h 88 86 #[] :=
  ⟨⟨oA p 88, _, _, _, _, _, _, _, _, oA p 86, K 88 _ (by kernel_rfl), rfl, rfl, rfl, rfl, rfl, rfl, K 86 _ (by kernel_rfl), rfl, trivial, by decide⟩, ⟨oA p 88, _, K 88 _ (by kernel_rfl), rfl, rfl, rfl⟩, K 86 _ (by kernel_rfl)⟩
theorem tb_of {p : Params} {h : Heap} (K : Frag.In (K0 p) h) : Tb h := ⟨⟨_, ct30 K, .inl rfl⟩, ⟨_, ct79 K, .inl rfl⟩, ⟨_, ct86 K, .inl rfl⟩⟩
theorem tab_was {h h' : Heap} {c P : Addr} {ps : Array Value} {o : Obj} (ct : CT h c P #[]) (at' : h'.get? P = some { cls := .none, data := .fields ps }) (e : h.get? P = some o) : asItWas h h' P o := by
  have q := e.symm.trans ct.at
  cases q
  refine .inr (.inl ⟨ct.2.isCodeTable, rfl, #[], ps, rfl, ?_⟩)
  rw [at']
  simp
theorem oldK_of {p : Params} {h h' : Heap} (K : Frag.In (K0 p) h) (V : Evo h h') (T : Tb h') : OldK h h' := by
  have old : ∀ b o, h.get? b = some o → asItWas h h' b o := fun b o e => by
    by_cases ht : isTab b
    · rcases ht with rfl | rfl | rfl
      · obtain ⟨ps, ct, _⟩ := T.t30; exact tab_was (ct30 K) ct.at e
      · obtain ⟨ps, ct, _⟩ := T.t79; exact tab_was (ct79 K) ct.at e
      · obtain ⟨ps, ct, _⟩ := T.t86; exact tab_was (ct86 K) ct.at e
    · exact .inl (V.1 _ _ e ht)
  refine ⟨old, fun b o e => ?_⟩
  by_cases ht : isTab b
  · obtain ⟨vs, q⟩ := T.none ht; exact ⟨_, q⟩
  · exact ⟨o, V.1 _ _ e ht⟩
theorem ints_are {vs : List Value} {ws : List Int} (x : IntsAre vs ws) : Ints vs ws := by
  induction x with
  | nil => exact .nil
  | cons _ _ _ ih => exact .cons ih
end Mine
end

open PySem PySem.W PyProof.Rows PySem.W.X in
set_option maxRecDepth 100000 in
set_option maxHeartbeats 8000000 in
theorem PySem.Challenge.cw_sn0002_01_holds : PySem.Challenge.rw_sn0002_01.Holds := by
  w_on
  o_law
  o_head (kHook Mine.K0 [0, 1, 2, 3, 4, 5, 6, 7, 8, 9, 10, 11, 12, 13, 14, 15, 16, 17, 18, 19, 20, 21, 22, 23, 24, 25, 26, 27, 28, 29, 30, 31, 32, 33, 34, 35, 36, 37, 38, 39, 40, 41, 42, 43, 44, 45, 46, 47, 48, 49, 50, 51, 52, 53, 54, 55, 56, 57, 58, 59, 60, 61, 62, 63, 64, 65, 66, 67, 68, 69, 70, 71, 72, 73, 74, 75, 76, 77, 78, 79, 80, 81, 82, 83, 84, 85, 86, 87, 88, 89] (fun _ => by kernel_rfl))
  (case hw => w_witness2)
  k_fill
  intro w s₀ s₁ mg mb G Y fa o pm cd doc dV kV ho hd hcd hD hmg hg args vals as hpre hlay hrd hwl hlo
  have KX := kIn_of Y
  refine Ground.open G ?_
  intro T B D TE TW
  wrow_args hpre hlay hrd hwl hlo
  x_fa T KX hmg
  rename_i v hs1 hlay0 hL1 hr1 hl2 w4 w3 l vs w0 hL ra w1 r0 hI hr hc1 hc0
  obtain ⟨h, g, d, t, os⟩ := s₁
  have hg' : g = #[] := hg
  subst hg'
  have hlen : v.length ≤ 63 := by
    have : ¬ ((63 : Int) < (v.length : Int)) := hc1
    lia
  obtain ⟨ob, e1, e2, n, e3⟩ := hL
  show wpAny (model PySem.Challenge.pw_sn0002_01 w) callerA (call (.ref 89) [.ref l]) _ _ _
  refine Mine.w_law (Z := fun _ => True) (v := v) ⟨trivial, ob, vs.toArray, n, e1, e2, e3, by simpa using Mine.ints_are hI⟩ (by lia) rfl ⟨Mine.kt_of KX, Mine.tb_of KX⟩ (fun _ _ => trivial) (by decide) (by decide) fun h' tk V T' => ?_
  refine ⟨.inl ⟨_, _, [], rfl, fun _ => rfl, ReadsW.bool true, ?_, fun _ => ⟨List.nodup_nil, fun _ hm => (nomatch hm)⟩⟩, Mine.oldK_of KX V T', rfl, AllBare.empty⟩
  first | rfl | wrow_post
