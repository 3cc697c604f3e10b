section
-- ===== PART A: goes FIRST, ahead of the names: the tables' words, and 'selects' of the private methods out of them =====
/-- a private method of a class that the tables say can be made, by its rows of tables_1 -/
def lw_okq (q : MethodName × Nat) : Prop := (q.1.cls ≠ "java/lang/invoke/MethodHandle" ∧ q.1.cls ≠ "java/lang/invoke/VarHandle") ∧ Cond.instantiable q.1.cls q.2 ∈ tables_1 ∧ Cond.privateMethod q.1 ∈ tables_1 ∧ Cond.instanceMethod q.1 ∈ tables_1
def lw_privs : List (MethodName × Nat) := []
def lw_tbl : List Cond := k2_sels lw_privs ++ tables_1
theorem lw_privs_ok : ∀ q ∈ lw_privs, lw_okq q := fun _ h => absurd h List.not_mem_nil
-- ===== ONE list of words for every method: the tables' words that hold all through a run =====
def lw_all : List Cond := lw_tbl.filter goodWord
/-- a word of the tables by its place: claim/WORDS.tsv -/
theorem lw_w {w : Cond} (i : Nat) (h : lw_tbl[i]? = some w) (g : goodWord w = true) : w ∈ lw_all := List.mem_filter.mpr ⟨List.mem_of_getElem? h, g⟩
theorem lw_all_tbl {w : Cond} (h : w ∈ lw_all) : w ∈ lw_tbl := (List.mem_filter.mp h).1
theorem lw_self : GoodIn lw_all lw_all := fun w h => ⟨h, good_of_word (List.mem_filter.mp h).2⟩
/-- a class's field words, by their places -/
theorem lw_in (ws : List Cond) (ps : List Nat) (hp : ws = ps.filterMap (fun i => lw_tbl[i]?)) (hg : ws.all goodWord = true) : ∀ w ∈ ws, w ∈ lw_all := by
  intro w h
  have h1 := List.all_eq_true.mp hg w h
  rw [hp] at h
  obtain ⟨i, -, hi⟩ := List.mem_filterMap.mp h
  exact lw_w i hi h1
/-- the words of a contract for the method y with code b, L locals, answer r -/
abbrev ws_ (y : MethodName) (b : ByteArray) (L : Nat) (r : Option FieldType) : List Cond := Cond.code y b L r :: lw_all
theorem lw_meth {y : MethodName} {b : ByteArray} {L : Nat} {r : Option FieldType} (h : Cond.code y b L r ∈ lw_all) : GoodIn lw_all (ws_ y b L r) := by
  intro w hw
  rcases List.mem_cons.mp hw with e | e
  · rw [e]
    exact lw_self _ h
  · exact lw_self _ e
theorem lw_app {a c : List Cond} (ha : ∀ w ∈ a, w ∈ lw_all) (hc : GoodIn lw_all c) : GoodIn lw_all (a ++ c) := by
  intro w hw
  rcases List.mem_append.mp hw with e | e
  · exact lw_self w (ha w e)
  · exact hc w e
/-- what a call through an object asks: cwV n hts (lw_V ..) -/
theorem lw_V {own : String} {idx : Nat} {C : String} {y : MethodName} {b : ByteArray} {L : Nat} {r : Option FieldType} (h1 : Cond.methodLink own idx y ∈ lw_all) (h2 : Cond.instanceMethod y ∈ lw_all) (h3 : Cond.selects C y y ∈ lw_all) (h4 : Cond.initialized C ∈ lw_all) (h5 : Cond.code y b L r ∈ lw_all) : GoodIn lw_all (wsV own idx C y (ws_ y b L r)) := by
  refine lw_app ?_ (lw_meth h5)
  intro w hw
  simp only [List.mem_cons, List.not_mem_nil, or_false] at hw
  rcases hw with e | e | e | e
  · rw [e]; exact h1
  · rw [e]; exact h2
  · rw [e]; exact h3
  · rw [e]; exact h4
/-- what a static call asks: va_cwS n hts (lw_S ..) -/
theorem lw_S {own : String} {idx : Nat} {y : MethodName} {b : ByteArray} {L : Nat} {r : Option FieldType} (h1 : Cond.methodLink own idx y ∈ lw_all) (h2 : Cond.static y ∈ lw_all) (h3 : Cond.initialized y.cls ∈ lw_all) (h4 : Cond.code y b L r ∈ lw_all) : GoodIn lw_all (va_wsS own idx y (ws_ y b L r)) := by
  refine lw_app ?_ (lw_meth h4)
  intro w hw
  simp only [List.mem_cons, List.not_mem_nil, or_false] at hw
  rcases hw with e | e | e
  · rw [e]; exact h1
  · rw [e]; exact h2
  · rw [e]; exact h3
/-- the words of a contract for a method WITH HANDLERS (hh: its table) -/
abbrev wsW_ (y : MethodName) (b : ByteArray) (L : Nat) (r : Option FieldType) (hh : List (Nat × Nat × Nat × Nat)) : List Cond := Cond.codeWith y b L r hh :: lw_all
theorem lw_methW {y : MethodName} {b : ByteArray} {L : Nat} {r : Option FieldType} {hh : List (Nat × Nat × Nat × Nat)} (h : Cond.codeWith y b L r hh ∈ lw_all) : GoodIn lw_all (wsW_ y b L r hh) := by
  intro w hw
  rcases List.mem_cons.mp hw with e | e
  · rw [e]
    exact lw_self _ h
  · exact lw_self _ e
/-- any list of words by their places (lw_in), good -/
theorem lw_good {ws : List Cond} (h : ∀ w ∈ ws, w ∈ lw_all) : GoodIn lw_all ws := fun w hw => lw_self w (h w hw)
/-- what a call of a method with handlers asks: vx_cwVW n hts (lw_VW ..), vx_cwSW n hts (lw_SW ..) -/
theorem lw_VW {own : String} {idx : Nat} {C : String} {y : MethodName} {b : ByteArray} {L : Nat} {r : Option FieldType} {hh : List (Nat × Nat × Nat × Nat)} (h1 : Cond.methodLink own idx y ∈ lw_all) (h2 : Cond.instanceMethod y ∈ lw_all) (h3 : Cond.selects C y y ∈ lw_all) (h4 : Cond.initialized C ∈ lw_all) (h5 : Cond.codeWith y b L r hh ∈ lw_all) : GoodIn lw_all (wsV own idx C y (wsW_ y b L r hh)) := by
  refine lw_app ?_ (lw_methW h5)
  intro w hw
  simp only [List.mem_cons, List.not_mem_nil, or_false] at hw
  rcases hw with e | e | e | e
  · rw [e]; exact h1
  · rw [e]; exact h2
  · rw [e]; exact h3
  · rw [e]; exact h4
theorem lw_SW {own : String} {idx : Nat} {y : MethodName} {b : ByteArray} {L : Nat} {r : Option FieldType} {hh : List (Nat × Nat × Nat × Nat)} (h1 : Cond.methodLink own idx y ∈ lw_all) (h2 : Cond.static y ∈ lw_all) (h3 : Cond.initialized y.cls ∈ lw_all) (h4 : Cond.codeWith y b L r hh ∈ lw_all) : GoodIn lw_all (va_wsS own idx y (wsW_ y b L r hh)) := by
  refine lw_app ?_ (lw_methW h4)
  intro w hw
  simp only [List.mem_cons, List.not_mem_nil, or_false] at hw
  rcases hw with e | e | e
  · rw [e]; exact h1
  · rw [e]; exact h2
  · rw [e]; exact h3
/-- a word by its place in its run of the tables -/
theorem lw_at {r : List Cond} (hr : ∀ w ∈ r, w ∈ lw_tbl) {w : Cond} (i : Nat) (h : r[i]? = some w) : w ∈ lw_tbl := hr w (List.mem_of_getElem? h)
theorem lw_g {w : Cond} (h : w ∈ lw_tbl) (g : goodWord w = true) : w ∈ lw_all := List.mem_filter.mpr ⟨h, g⟩
theorem lw_ms : ∀ w ∈ k2_sels lw_privs, w ∈ lw_tbl := fun w h => show w ∈ k2_sels lw_privs ++ tables_1 from List.mem_append_left _ h
theorem lw_m0 : ∀ w ∈ tables_1, w ∈ lw_tbl := fun w h => show w ∈ k2_sels lw_privs ++ tables_1 from List.mem_append_right (k2_sels lw_privs) h
end
section
/-! DECODE ROWS BY BYTES: one lemma an opcode; a method's code is cut into short pieces once, and a row reads its own piece alone. -/
set_option maxRecDepth 100000
/-- the code has just these bytes from pc on -/
def DkAt (code : ByteArray) (pc : Nat) (bs : List UInt8) : Prop := ∀ (j : Nat) (b : UInt8), bs[j]? = some b → code.data.toList[pc + j]? = some b
/-- the piece W has the bytes bs from its place j on -/
def dkIn (W : List UInt8) (j : Nat) (bs : List UInt8) : Bool := decide ((W.drop j).take bs.length = bs)
theorem dk_seg {l W T : List UInt8} {o o2 : Nat} (h : l.drop o = W ++ T) (n : Nat) (hn : W.length = n) (ho : o + n = o2) : l.drop o2 = T := by
  subst ho
  rw [← List.drop_drop, h, List.drop_left' hn]
theorem dk_at {code : ByteArray} {W T bs : List UInt8} {o pc : Nat} (h : code.data.toList.drop o = W ++ T) (j : Nat) (hp : o + j = pc) (hw : dkIn W j bs = true) : DkAt code pc bs := by
  subst hp
  intro i b e
  have h1 := of_decide_eq_true hw
  have h2 : i < bs.length := (List.getElem?_eq_some_iff.mp e).1
  have h3 : W[j + i]? = some b := by
    rw [← h1, List.getElem?_take, if_pos h2, List.getElem?_drop] at e
    exact e
  have h4 : j + i < W.length := (List.getElem?_eq_some_iff.mp h3).1
  have h5 : (code.data.toList.drop o)[j + i]? = some b := by
    rw [h, List.getElem?_append_left h4]
    exact h3
  rw [List.getElem?_drop, ← Nat.add_assoc] at h5
  exact h5
theorem dk_u1 {A : ByteArray} {p : Nat} {b : UInt8} (h : A.data.toList[p]? = some b) : (Reader.u1 : Reader DecodeError Nat) A p = .ok (b.toNat, p + 1) := by
  obtain ⟨h1, h2⟩ := List.getElem?_eq_some_iff.mp h
  have h3 : p < A.size := by simpa using h1
  have h4 : A[p]'h3 = b := h2
  have e : (Reader.u1 : Reader DecodeError Nat) A p = (if h : p < A.size then .ok (A[p].toNat, p + 1) else .error (HasTruncated.truncated p)) := by
    show (do if h : p < A.size then do set (p + 1); Pure.pure A[p].toNat else MonadExcept.throw (HasTruncated.truncated p) : Reader DecodeError Nat) A p = _
    by_cases hi : p < A.size
    · rw [dif_pos hi, dif_pos hi]; rfl
    · rw [dif_neg hi, dif_neg hi]; rfl
  rw [e, dif_pos h3, h4]
theorem dk_bind {α β : Type} {r : Reader DecodeError α} {f : α → Reader DecodeError β} {A : ByteArray} {p s : Nat} {a : α} (h : r A p = .ok (a, s)) : (r >>= f) A p = f a A s := by
  show (do let (a, s) ← r A p; f a A s : Except DecodeError (β × Nat)) = _
  rw [h]
  rfl
theorem dk_map {α β : Type} {r : Reader DecodeError α} {g : α → β} {A : ByteArray} {p s : Nat} {a : α} (h : r A p = .ok (a, s)) : (g <$> r) A p = .ok (g a, s) := by
  show (do let (a, s) ← r A p; .ok (g a, s) : Except DecodeError (β × Nat)) = _
  rw [h]
  rfl
theorem dk_u2 {A : ByteArray} {p : Nat} {a b : UInt8} (h : A.data.toList[p]? = some a) (h2 : A.data.toList[p + 1]? = some b) : (Reader.u2 : Reader DecodeError Nat) A p = .ok (a.toNat * 256 + b.toNat, p + 2) := by
  show (Reader.u1 >>= fun hi => Reader.u1 >>= fun lo => Pure.pure (hi * 256 + lo) : Reader DecodeError Nat) A p = _
  rw [dk_bind (dk_u1 h), dk_bind (dk_u1 h2)]
  rfl
theorem dk_of {code : ByteArray} {pc n : Nat} {i : Instr} (h : Decoder.instr pc code pc = .ok (i, pc + n)) : decode code pc = .ok (i, n) := by
  have e : decode code pc = (match Decoder.instr pc code pc with | .error x => .error x | .ok (j, s) => .ok (j, s - pc)) := by
    show (do let (j, s) ← Decoder.instr pc code pc; Pure.pure (j, s - pc) : Except DecodeError (Instr × Nat)) = _
    cases Decoder.instr pc code pc <;> rfl
  rw [e, h]
  show Except.ok (i, pc + n - pc) = _
  rw [Nat.add_sub_cancel_left]
theorem dk_2 {code : ByteArray} {pc : Nat} (h : DkAt code pc [2]) : decode code pc = .ok (.iconst (-1), 1) := dk_of ((dk_bind (dk_u1 (h 0 _ rfl))).trans rfl)
theorem dk_3 {code : ByteArray} {pc : Nat} (h : DkAt code pc [3]) : decode code pc = .ok (.iconst 0, 1) := dk_of ((dk_bind (dk_u1 (h 0 _ rfl))).trans rfl)
theorem dk_4 {code : ByteArray} {pc : Nat} (h : DkAt code pc [4]) : decode code pc = .ok (.iconst 1, 1) := dk_of ((dk_bind (dk_u1 (h 0 _ rfl))).trans rfl)
theorem dk_5 {code : ByteArray} {pc : Nat} (h : DkAt code pc [5]) : decode code pc = .ok (.iconst 2, 1) := dk_of ((dk_bind (dk_u1 (h 0 _ rfl))).trans rfl)
theorem dk_6 {code : ByteArray} {pc : Nat} (h : DkAt code pc [6]) : decode code pc = .ok (.iconst 3, 1) := dk_of ((dk_bind (dk_u1 (h 0 _ rfl))).trans rfl)
theorem dk_7 {code : ByteArray} {pc : Nat} (h : DkAt code pc [7]) : decode code pc = .ok (.iconst 4, 1) := dk_of ((dk_bind (dk_u1 (h 0 _ rfl))).trans rfl)
theorem dk_8 {code : ByteArray} {pc : Nat} (h : DkAt code pc [8]) : decode code pc = .ok (.iconst 5, 1) := dk_of ((dk_bind (dk_u1 (h 0 _ rfl))).trans rfl)
theorem dk_9 {code : ByteArray} {pc : Nat} (h : DkAt code pc [9]) : decode code pc = .ok (.lconst 0, 1) := dk_of ((dk_bind (dk_u1 (h 0 _ rfl))).trans rfl)
theorem dk_16 {code : ByteArray} {pc : Nat} (a : UInt8) (h : DkAt code pc [16, a]) : decode code pc = .ok (.bipush (Reader.signed 8 a.toNat), 2) := dk_of ((dk_bind (dk_u1 (h 0 _ rfl))).trans ((dk_bind (dk_map (dk_u1 (h 1 _ rfl)))).trans rfl))
theorem dk_18 {code : ByteArray} {pc : Nat} (a : UInt8) (h : DkAt code pc [18, a]) : decode code pc = .ok (.ldc a.toNat, 2) := dk_of ((dk_bind (dk_u1 (h 0 _ rfl))).trans ((dk_bind (dk_u1 (h 1 _ rfl))).trans rfl))
theorem dk_20 {code : ByteArray} {pc : Nat} (a b : UInt8) (h : DkAt code pc [20, a, b]) : decode code pc = .ok (.ldc2_w (a.toNat * 256 + b.toNat), 3) := dk_of ((dk_bind (dk_u1 (h 0 _ rfl))).trans ((dk_bind (dk_u2 (h 1 _ rfl) (h 2 _ rfl))).trans rfl))
theorem dk_21 {code : ByteArray} {pc : Nat} (a : UInt8) (h : DkAt code pc [21, a]) : decode code pc = .ok (.iload a.toNat, 2) := dk_of ((dk_bind (dk_u1 (h 0 _ rfl))).trans ((dk_bind (dk_u1 (h 1 _ rfl))).trans rfl))
theorem dk_22 {code : ByteArray} {pc : Nat} (a : UInt8) (h : DkAt code pc [22, a]) : decode code pc = .ok (.lload a.toNat, 2) := dk_of ((dk_bind (dk_u1 (h 0 _ rfl))).trans ((dk_bind (dk_u1 (h 1 _ rfl))).trans rfl))
theorem dk_25 {code : ByteArray} {pc : Nat} (a : UInt8) (h : DkAt code pc [25, a]) : decode code pc = .ok (.aload a.toNat, 2) := dk_of ((dk_bind (dk_u1 (h 0 _ rfl))).trans ((dk_bind (dk_u1 (h 1 _ rfl))).trans rfl))
theorem dk_26 {code : ByteArray} {pc : Nat} (h : DkAt code pc [26]) : decode code pc = .ok (.iload_n 0, 1) := dk_of ((dk_bind (dk_u1 (h 0 _ rfl))).trans rfl)
theorem dk_27 {code : ByteArray} {pc : Nat} (h : DkAt code pc [27]) : decode code pc = .ok (.iload_n 1, 1) := dk_of ((dk_bind (dk_u1 (h 0 _ rfl))).trans rfl)
theorem dk_28 {code : ByteArray} {pc : Nat} (h : DkAt code pc [28]) : decode code pc = .ok (.iload_n 2, 1) := dk_of ((dk_bind (dk_u1 (h 0 _ rfl))).trans rfl)
theorem dk_29 {code : ByteArray} {pc : Nat} (h : DkAt code pc [29]) : decode code pc = .ok (.iload_n 3, 1) := dk_of ((dk_bind (dk_u1 (h 0 _ rfl))).trans rfl)
theorem dk_33 {code : ByteArray} {pc : Nat} (h : DkAt code pc [33]) : decode code pc = .ok (.lload_n 3, 1) := dk_of ((dk_bind (dk_u1 (h 0 _ rfl))).trans rfl)
theorem dk_42 {code : ByteArray} {pc : Nat} (h : DkAt code pc [42]) : decode code pc = .ok (.aload_n 0, 1) := dk_of ((dk_bind (dk_u1 (h 0 _ rfl))).trans rfl)
theorem dk_43 {code : ByteArray} {pc : Nat} (h : DkAt code pc [43]) : decode code pc = .ok (.aload_n 1, 1) := dk_of ((dk_bind (dk_u1 (h 0 _ rfl))).trans rfl)
theorem dk_44 {code : ByteArray} {pc : Nat} (h : DkAt code pc [44]) : decode code pc = .ok (.aload_n 2, 1) := dk_of ((dk_bind (dk_u1 (h 0 _ rfl))).trans rfl)
theorem dk_45 {code : ByteArray} {pc : Nat} (h : DkAt code pc [45]) : decode code pc = .ok (.aload_n 3, 1) := dk_of ((dk_bind (dk_u1 (h 0 _ rfl))).trans rfl)
theorem dk_46 {code : ByteArray} {pc : Nat} (h : DkAt code pc [46]) : decode code pc = .ok (.iaload, 1) := dk_of ((dk_bind (dk_u1 (h 0 _ rfl))).trans rfl)
theorem dk_47 {code : ByteArray} {pc : Nat} (h : DkAt code pc [47]) : decode code pc = .ok (.laload, 1) := dk_of ((dk_bind (dk_u1 (h 0 _ rfl))).trans rfl)
theorem dk_50 {code : ByteArray} {pc : Nat} (h : DkAt code pc [50]) : decode code pc = .ok (.aaload, 1) := dk_of ((dk_bind (dk_u1 (h 0 _ rfl))).trans rfl)
theorem dk_54 {code : ByteArray} {pc : Nat} (a : UInt8) (h : DkAt code pc [54, a]) : decode code pc = .ok (.istore a.toNat, 2) := dk_of ((dk_bind (dk_u1 (h 0 _ rfl))).trans ((dk_bind (dk_u1 (h 1 _ rfl))).trans rfl))
theorem dk_55 {code : ByteArray} {pc : Nat} (a : UInt8) (h : DkAt code pc [55, a]) : decode code pc = .ok (.lstore a.toNat, 2) := dk_of ((dk_bind (dk_u1 (h 0 _ rfl))).trans ((dk_bind (dk_u1 (h 1 _ rfl))).trans rfl))
theorem dk_58 {code : ByteArray} {pc : Nat} (a : UInt8) (h : DkAt code pc [58, a]) : decode code pc = .ok (.astore a.toNat, 2) := dk_of ((dk_bind (dk_u1 (h 0 _ rfl))).trans ((dk_bind (dk_u1 (h 1 _ rfl))).trans rfl))
theorem dk_60 {code : ByteArray} {pc : Nat} (h : DkAt code pc [60]) : decode code pc = .ok (.istore_n 1, 1) := dk_of ((dk_bind (dk_u1 (h 0 _ rfl))).trans rfl)
theorem dk_61 {code : ByteArray} {pc : Nat} (h : DkAt code pc [61]) : decode code pc = .ok (.istore_n 2, 1) := dk_of ((dk_bind (dk_u1 (h 0 _ rfl))).trans rfl)
theorem dk_62 {code : ByteArray} {pc : Nat} (h : DkAt code pc [62]) : decode code pc = .ok (.istore_n 3, 1) := dk_of ((dk_bind (dk_u1 (h 0 _ rfl))).trans rfl)
theorem dk_66 {code : ByteArray} {pc : Nat} (h : DkAt code pc [66]) : decode code pc = .ok (.lstore_n 3, 1) := dk_of ((dk_bind (dk_u1 (h 0 _ rfl))).trans rfl)
theorem dk_76 {code : ByteArray} {pc : Nat} (h : DkAt code pc [76]) : decode code pc = .ok (.astore_n 1, 1) := dk_of ((dk_bind (dk_u1 (h 0 _ rfl))).trans rfl)
theorem dk_77 {code : ByteArray} {pc : Nat} (h : DkAt code pc [77]) : decode code pc = .ok (.astore_n 2, 1) := dk_of ((dk_bind (dk_u1 (h 0 _ rfl))).trans rfl)
theorem dk_78 {code : ByteArray} {pc : Nat} (h : DkAt code pc [78]) : decode code pc = .ok (.astore_n 3, 1) := dk_of ((dk_bind (dk_u1 (h 0 _ rfl))).trans rfl)
theorem dk_79 {code : ByteArray} {pc : Nat} (h : DkAt code pc [79]) : decode code pc = .ok (.iastore, 1) := dk_of ((dk_bind (dk_u1 (h 0 _ rfl))).trans rfl)
theorem dk_80 {code : ByteArray} {pc : Nat} (h : DkAt code pc [80]) : decode code pc = .ok (.lastore, 1) := dk_of ((dk_bind (dk_u1 (h 0 _ rfl))).trans rfl)
theorem dk_83 {code : ByteArray} {pc : Nat} (h : DkAt code pc [83]) : decode code pc = .ok (.aastore, 1) := dk_of ((dk_bind (dk_u1 (h 0 _ rfl))).trans rfl)
theorem dk_87 {code : ByteArray} {pc : Nat} (h : DkAt code pc [87]) : decode code pc = .ok (.pop, 1) := dk_of ((dk_bind (dk_u1 (h 0 _ rfl))).trans rfl)
theorem dk_89 {code : ByteArray} {pc : Nat} (h : DkAt code pc [89]) : decode code pc = .ok (.dup, 1) := dk_of ((dk_bind (dk_u1 (h 0 _ rfl))).trans rfl)
theorem dk_91 {code : ByteArray} {pc : Nat} (h : DkAt code pc [91]) : decode code pc = .ok (.dup_x2, 1) := dk_of ((dk_bind (dk_u1 (h 0 _ rfl))).trans rfl)
theorem dk_92 {code : ByteArray} {pc : Nat} (h : DkAt code pc [92]) : decode code pc = .ok (.dup2, 1) := dk_of ((dk_bind (dk_u1 (h 0 _ rfl))).trans rfl)
theorem dk_96 {code : ByteArray} {pc : Nat} (h : DkAt code pc [96]) : decode code pc = .ok (.iadd, 1) := dk_of ((dk_bind (dk_u1 (h 0 _ rfl))).trans rfl)
theorem dk_97 {code : ByteArray} {pc : Nat} (h : DkAt code pc [97]) : decode code pc = .ok (.ladd, 1) := dk_of ((dk_bind (dk_u1 (h 0 _ rfl))).trans rfl)
theorem dk_100 {code : ByteArray} {pc : Nat} (h : DkAt code pc [100]) : decode code pc = .ok (.isub, 1) := dk_of ((dk_bind (dk_u1 (h 0 _ rfl))).trans rfl)
theorem dk_101 {code : ByteArray} {pc : Nat} (h : DkAt code pc [101]) : decode code pc = .ok (.lsub, 1) := dk_of ((dk_bind (dk_u1 (h 0 _ rfl))).trans rfl)
theorem dk_104 {code : ByteArray} {pc : Nat} (h : DkAt code pc [104]) : decode code pc = .ok (.imul, 1) := dk_of ((dk_bind (dk_u1 (h 0 _ rfl))).trans rfl)
theorem dk_105 {code : ByteArray} {pc : Nat} (h : DkAt code pc [105]) : decode code pc = .ok (.lmul, 1) := dk_of ((dk_bind (dk_u1 (h 0 _ rfl))).trans rfl)
theorem dk_112 {code : ByteArray} {pc : Nat} (h : DkAt code pc [112]) : decode code pc = .ok (.irem, 1) := dk_of ((dk_bind (dk_u1 (h 0 _ rfl))).trans rfl)
theorem dk_116 {code : ByteArray} {pc : Nat} (h : DkAt code pc [116]) : decode code pc = .ok (.ineg, 1) := dk_of ((dk_bind (dk_u1 (h 0 _ rfl))).trans rfl)
theorem dk_120 {code : ByteArray} {pc : Nat} (h : DkAt code pc [120]) : decode code pc = .ok (.ishl, 1) := dk_of ((dk_bind (dk_u1 (h 0 _ rfl))).trans rfl)
theorem dk_121 {code : ByteArray} {pc : Nat} (h : DkAt code pc [121]) : decode code pc = .ok (.lshl, 1) := dk_of ((dk_bind (dk_u1 (h 0 _ rfl))).trans rfl)
theorem dk_123 {code : ByteArray} {pc : Nat} (h : DkAt code pc [123]) : decode code pc = .ok (.lshr, 1) := dk_of ((dk_bind (dk_u1 (h 0 _ rfl))).trans rfl)
theorem dk_124 {code : ByteArray} {pc : Nat} (h : DkAt code pc [124]) : decode code pc = .ok (.iushr, 1) := dk_of ((dk_bind (dk_u1 (h 0 _ rfl))).trans rfl)
theorem dk_125 {code : ByteArray} {pc : Nat} (h : DkAt code pc [125]) : decode code pc = .ok (.lushr, 1) := dk_of ((dk_bind (dk_u1 (h 0 _ rfl))).trans rfl)
theorem dk_126 {code : ByteArray} {pc : Nat} (h : DkAt code pc [126]) : decode code pc = .ok (.iand, 1) := dk_of ((dk_bind (dk_u1 (h 0 _ rfl))).trans rfl)
theorem dk_127 {code : ByteArray} {pc : Nat} (h : DkAt code pc [127]) : decode code pc = .ok (.land, 1) := dk_of ((dk_bind (dk_u1 (h 0 _ rfl))).trans rfl)
theorem dk_128 {code : ByteArray} {pc : Nat} (h : DkAt code pc [128]) : decode code pc = .ok (.ior, 1) := dk_of ((dk_bind (dk_u1 (h 0 _ rfl))).trans rfl)
theorem dk_132 {code : ByteArray} {pc : Nat} (a b : UInt8) (h : DkAt code pc [132, a, b]) : decode code pc = .ok (.iinc a.toNat (Reader.signed 8 b.toNat), 3) := dk_of ((dk_bind (dk_u1 (h 0 _ rfl))).trans ((dk_bind (dk_u1 (h 1 _ rfl))).trans ((dk_bind (dk_map (dk_u1 (h 2 _ rfl)))).trans rfl)))
theorem dk_133 {code : ByteArray} {pc : Nat} (h : DkAt code pc [133]) : decode code pc = .ok (.i2l, 1) := dk_of ((dk_bind (dk_u1 (h 0 _ rfl))).trans rfl)
theorem dk_136 {code : ByteArray} {pc : Nat} (h : DkAt code pc [136]) : decode code pc = .ok (.l2i, 1) := dk_of ((dk_bind (dk_u1 (h 0 _ rfl))).trans rfl)
theorem dk_153 {code : ByteArray} {pc : Nat} (a b : UInt8) (h : DkAt code pc [153, a, b]) : decode code pc = .ok (.ifCond .eq (Reader.signed 16 (a.toNat * 256 + b.toNat)), 3) := dk_of ((dk_bind (dk_u1 (h 0 _ rfl))).trans ((dk_bind (dk_map (dk_u2 (h 1 _ rfl) (h 2 _ rfl)))).trans rfl))
theorem dk_154 {code : ByteArray} {pc : Nat} (a b : UInt8) (h : DkAt code pc [154, a, b]) : decode code pc = .ok (.ifCond .ne (Reader.signed 16 (a.toNat * 256 + b.toNat)), 3) := dk_of ((dk_bind (dk_u1 (h 0 _ rfl))).trans ((dk_bind (dk_map (dk_u2 (h 1 _ rfl) (h 2 _ rfl)))).trans rfl))
theorem dk_155 {code : ByteArray} {pc : Nat} (a b : UInt8) (h : DkAt code pc [155, a, b]) : decode code pc = .ok (.ifCond .lt (Reader.signed 16 (a.toNat * 256 + b.toNat)), 3) := dk_of ((dk_bind (dk_u1 (h 0 _ rfl))).trans ((dk_bind (dk_map (dk_u2 (h 1 _ rfl) (h 2 _ rfl)))).trans rfl))
theorem dk_157 {code : ByteArray} {pc : Nat} (a b : UInt8) (h : DkAt code pc [157, a, b]) : decode code pc = .ok (.ifCond .gt (Reader.signed 16 (a.toNat * 256 + b.toNat)), 3) := dk_of ((dk_bind (dk_u1 (h 0 _ rfl))).trans ((dk_bind (dk_map (dk_u2 (h 1 _ rfl) (h 2 _ rfl)))).trans rfl))
theorem dk_158 {code : ByteArray} {pc : Nat} (a b : UInt8) (h : DkAt code pc [158, a, b]) : decode code pc = .ok (.ifCond .le (Reader.signed 16 (a.toNat * 256 + b.toNat)), 3) := dk_of ((dk_bind (dk_u1 (h 0 _ rfl))).trans ((dk_bind (dk_map (dk_u2 (h 1 _ rfl) (h 2 _ rfl)))).trans rfl))
theorem dk_159 {code : ByteArray} {pc : Nat} (a b : UInt8) (h : DkAt code pc [159, a, b]) : decode code pc = .ok (.if_icmp .eq (Reader.signed 16 (a.toNat * 256 + b.toNat)), 3) := dk_of ((dk_bind (dk_u1 (h 0 _ rfl))).trans ((dk_bind (dk_map (dk_u2 (h 1 _ rfl) (h 2 _ rfl)))).trans rfl))
theorem dk_160 {code : ByteArray} {pc : Nat} (a b : UInt8) (h : DkAt code pc [160, a, b]) : decode code pc = .ok (.if_icmp .ne (Reader.signed 16 (a.toNat * 256 + b.toNat)), 3) := dk_of ((dk_bind (dk_u1 (h 0 _ rfl))).trans ((dk_bind (dk_map (dk_u2 (h 1 _ rfl) (h 2 _ rfl)))).trans rfl))
theorem dk_161 {code : ByteArray} {pc : Nat} (a b : UInt8) (h : DkAt code pc [161, a, b]) : decode code pc = .ok (.if_icmp .lt (Reader.signed 16 (a.toNat * 256 + b.toNat)), 3) := dk_of ((dk_bind (dk_u1 (h 0 _ rfl))).trans ((dk_bind (dk_map (dk_u2 (h 1 _ rfl) (h 2 _ rfl)))).trans rfl))
theorem dk_162 {code : ByteArray} {pc : Nat} (a b : UInt8) (h : DkAt code pc [162, a, b]) : decode code pc = .ok (.if_icmp .ge (Reader.signed 16 (a.toNat * 256 + b.toNat)), 3) := dk_of ((dk_bind (dk_u1 (h 0 _ rfl))).trans ((dk_bind (dk_map (dk_u2 (h 1 _ rfl) (h 2 _ rfl)))).trans rfl))
theorem dk_164 {code : ByteArray} {pc : Nat} (a b : UInt8) (h : DkAt code pc [164, a, b]) : decode code pc = .ok (.if_icmp .le (Reader.signed 16 (a.toNat * 256 + b.toNat)), 3) := dk_of ((dk_bind (dk_u1 (h 0 _ rfl))).trans ((dk_bind (dk_map (dk_u2 (h 1 _ rfl) (h 2 _ rfl)))).trans rfl))
theorem dk_167 {code : ByteArray} {pc : Nat} (a b : UInt8) (h : DkAt code pc [167, a, b]) : decode code pc = .ok (.goto (Reader.signed 16 (a.toNat * 256 + b.toNat)), 3) := dk_of ((dk_bind (dk_u1 (h 0 _ rfl))).trans ((dk_bind (dk_map (dk_u2 (h 1 _ rfl) (h 2 _ rfl)))).trans rfl))
theorem dk_172 {code : ByteArray} {pc : Nat} (h : DkAt code pc [172]) : decode code pc = .ok (.ireturn, 1) := dk_of ((dk_bind (dk_u1 (h 0 _ rfl))).trans rfl)
theorem dk_176 {code : ByteArray} {pc : Nat} (h : DkAt code pc [176]) : decode code pc = .ok (.areturn, 1) := dk_of ((dk_bind (dk_u1 (h 0 _ rfl))).trans rfl)
theorem dk_177 {code : ByteArray} {pc : Nat} (h : DkAt code pc [177]) : decode code pc = .ok (.return_, 1) := dk_of ((dk_bind (dk_u1 (h 0 _ rfl))).trans rfl)
theorem dk_180 {code : ByteArray} {pc : Nat} (a b : UInt8) (h : DkAt code pc [180, a, b]) : decode code pc = .ok (.getfield (a.toNat * 256 + b.toNat), 3) := dk_of ((dk_bind (dk_u1 (h 0 _ rfl))).trans ((dk_bind (dk_u2 (h 1 _ rfl) (h 2 _ rfl))).trans rfl))
theorem dk_181 {code : ByteArray} {pc : Nat} (a b : UInt8) (h : DkAt code pc [181, a, b]) : decode code pc = .ok (.putfield (a.toNat * 256 + b.toNat), 3) := dk_of ((dk_bind (dk_u1 (h 0 _ rfl))).trans ((dk_bind (dk_u2 (h 1 _ rfl) (h 2 _ rfl))).trans rfl))
theorem dk_182 {code : ByteArray} {pc : Nat} (a b : UInt8) (h : DkAt code pc [182, a, b]) : decode code pc = .ok (.invokevirtual (a.toNat * 256 + b.toNat), 3) := dk_of ((dk_bind (dk_u1 (h 0 _ rfl))).trans ((dk_bind (dk_u2 (h 1 _ rfl) (h 2 _ rfl))).trans rfl))
theorem dk_183 {code : ByteArray} {pc : Nat} (a b : UInt8) (h : DkAt code pc [183, a, b]) : decode code pc = .ok (.invokespecial (a.toNat * 256 + b.toNat), 3) := dk_of ((dk_bind (dk_u1 (h 0 _ rfl))).trans ((dk_bind (dk_u2 (h 1 _ rfl) (h 2 _ rfl))).trans rfl))
theorem dk_184 {code : ByteArray} {pc : Nat} (a b : UInt8) (h : DkAt code pc [184, a, b]) : decode code pc = .ok (.invokestatic (a.toNat * 256 + b.toNat), 3) := dk_of ((dk_bind (dk_u1 (h 0 _ rfl))).trans ((dk_bind (dk_u2 (h 1 _ rfl) (h 2 _ rfl))).trans rfl))
theorem dk_187 {code : ByteArray} {pc : Nat} (a b : UInt8) (h : DkAt code pc [187, a, b]) : decode code pc = .ok (.new (a.toNat * 256 + b.toNat), 3) := dk_of ((dk_bind (dk_u1 (h 0 _ rfl))).trans ((dk_bind (dk_u2 (h 1 _ rfl) (h 2 _ rfl))).trans rfl))
theorem dk_188_10 {code : ByteArray} {pc : Nat} (h : DkAt code pc [188, 10]) : decode code pc = .ok (.newarray .int, 2) := dk_of ((dk_bind (dk_u1 (h 0 _ rfl))).trans ((dk_bind (dk_u1 (h 1 _ rfl))).trans rfl))
theorem dk_188_11 {code : ByteArray} {pc : Nat} (h : DkAt code pc [188, 11]) : decode code pc = .ok (.newarray .long, 2) := dk_of ((dk_bind (dk_u1 (h 0 _ rfl))).trans ((dk_bind (dk_u1 (h 1 _ rfl))).trans rfl))
theorem dk_190 {code : ByteArray} {pc : Nat} (h : DkAt code pc [190]) : decode code pc = .ok (.arraylength, 1) := dk_of ((dk_bind (dk_u1 (h 0 _ rfl))).trans rfl)
end
section
/-! java/lang/Object -/
set_option maxRecDepth 100000
def RJ0 : String := "java/lang/Object"
abbrev cJ0_init : ByteArray := object_method_1_code
def yJ0_init : MethodName := ⟨RJ0, "<init>", "()V"⟩
theorem dJ0_init_0 : decode cJ0_init 0 = .ok (.return_, 1) := by decide +kernel
theorem q108 : (Jvm.Cond.instanceMethod ({ cls := "java/lang/Object", name := "<init>", desc := "()V" } : Jvm.MethodName)) ∈ lw_all := lw_g (lw_at lw_m0 108 rfl) rfl
theorem q109 : (Jvm.Cond.code ({ cls := "java/lang/Object", name := "<init>", desc := "()V" } : Jvm.MethodName) object_method_1_code (1 : Nat) (Option.none : Option Jvm.ClassFile.FieldType)) ∈ lw_all := lw_g (lw_at lw_m0 109 rfl) rfl
theorem q111 : (Jvm.Cond.arrayOver (Jvm.ClassFile.FieldType.array Jvm.ClassFile.FieldType.int)) ∈ lw_tbl := lw_at lw_m0 111 rfl
set_option maxRecDepth 100000
theorem q122 : (Jvm.Cond.arrayClass Jvm.ClassFile.FieldType.int) ∈ lw_all := lw_g (lw_at lw_m0 122 rfl) rfl
theorem q159 : (Jvm.Cond.arrayClass Jvm.ClassFile.FieldType.long) ∈ lw_all := lw_g (lw_at lw_m0 159 rfl) rfl
/-! Nat -/
set_option maxRecDepth 100000
def RX2 : String := "Nat"
abbrev cX2_add : ByteArray := prog_1_method_2_code
def yX2_add : MethodName := ⟨RX2, "add", "(I[I[I[I)I"⟩
def dkwX2_add_2 : List UInt8 := [55, 4, 132, 6, 1, 167, 255, 209, 22, 4, 136, 172]
abbrev dktX2_add_2 : List UInt8 := dkwX2_add_2 ++ []
def dkwX2_add_1 : List UInt8 := [21, 6, 46, 133, 20, 0, 9, 127, 97, 97, 55, 4, 45, 21, 6, 22, 4, 136, 79, 22, 4, 16, 32, 125]
abbrev dktX2_add_1 : List UInt8 := dkwX2_add_1 ++ dktX2_add_2
def dkwX2_add_0 : List UInt8 := [9, 55, 4, 3, 54, 6, 21, 6, 26, 162, 0, 47, 22, 4, 43, 21, 6, 46, 133, 20, 0, 9, 127, 44]
abbrev dktX2_add_0 : List UInt8 := dkwX2_add_0 ++ dktX2_add_1
theorem dksX2_add_0 : cX2_add.data.toList.drop 0 = dktX2_add_0 := by decide +kernel
theorem dksX2_add_1 : cX2_add.data.toList.drop 24 = dktX2_add_1 := dk_seg dksX2_add_0 24 rfl rfl
theorem dksX2_add_2 : cX2_add.data.toList.drop 48 = dktX2_add_2 := dk_seg dksX2_add_1 24 rfl rfl
theorem dX2_add_0 : decode cX2_add 0 = .ok (.lconst 0, 1) := dk_9 (dk_at dksX2_add_0 0 rfl rfl)
theorem dX2_add_1 : decode cX2_add 1 = .ok (.lstore 4, 2) := dk_55 4 (dk_at dksX2_add_0 1 rfl rfl)
theorem dX2_add_3 : decode cX2_add 3 = .ok (.iconst 0, 1) := dk_3 (dk_at dksX2_add_0 3 rfl rfl)
theorem dX2_add_4 : decode cX2_add 4 = .ok (.istore 6, 2) := dk_54 6 (dk_at dksX2_add_0 4 rfl rfl)
theorem dX2_add_6 : decode cX2_add 6 = .ok (.iload 6, 2) := dk_21 6 (dk_at dksX2_add_0 6 rfl rfl)
theorem dX2_add_8 : decode cX2_add 8 = .ok (.iload_n 0, 1) := dk_26 (dk_at dksX2_add_0 8 rfl rfl)
theorem dX2_add_9 : decode cX2_add 9 = .ok (.if_icmp .ge 47, 3) := dk_162 0 47 (dk_at dksX2_add_0 9 rfl rfl)
theorem dX2_add_12 : decode cX2_add 12 = .ok (.lload 4, 2) := dk_22 4 (dk_at dksX2_add_0 12 rfl rfl)
theorem dX2_add_14 : decode cX2_add 14 = .ok (.aload_n 1, 1) := dk_43 (dk_at dksX2_add_0 14 rfl rfl)
theorem dX2_add_15 : decode cX2_add 15 = .ok (.iload 6, 2) := dk_21 6 (dk_at dksX2_add_0 15 rfl rfl)
theorem dX2_add_17 : decode cX2_add 17 = .ok (.iaload, 1) := dk_46 (dk_at dksX2_add_0 17 rfl rfl)
theorem dX2_add_18 : decode cX2_add 18 = .ok (.i2l, 1) := dk_133 (dk_at dksX2_add_0 18 rfl rfl)
theorem dX2_add_19 : decode cX2_add 19 = .ok (.ldc2_w 9, 3) := dk_20 0 9 (dk_at dksX2_add_0 19 rfl rfl)
theorem dX2_add_22 : decode cX2_add 22 = .ok (.land, 1) := dk_127 (dk_at dksX2_add_0 22 rfl rfl)
theorem dX2_add_23 : decode cX2_add 23 = .ok (.aload_n 2, 1) := dk_44 (dk_at dksX2_add_0 23 rfl rfl)
theorem dX2_add_24 : decode cX2_add 24 = .ok (.iload 6, 2) := dk_21 6 (dk_at dksX2_add_1 0 rfl rfl)
theorem dX2_add_26 : decode cX2_add 26 = .ok (.iaload, 1) := dk_46 (dk_at dksX2_add_1 2 rfl rfl)
theorem dX2_add_27 : decode cX2_add 27 = .ok (.i2l, 1) := dk_133 (dk_at dksX2_add_1 3 rfl rfl)
theorem dX2_add_28 : decode cX2_add 28 = .ok (.ldc2_w 9, 3) := dk_20 0 9 (dk_at dksX2_add_1 4 rfl rfl)
theorem dX2_add_31 : decode cX2_add 31 = .ok (.land, 1) := dk_127 (dk_at dksX2_add_1 7 rfl rfl)
theorem dX2_add_32 : decode cX2_add 32 = .ok (.ladd, 1) := dk_97 (dk_at dksX2_add_1 8 rfl rfl)
theorem dX2_add_33 : decode cX2_add 33 = .ok (.ladd, 1) := dk_97 (dk_at dksX2_add_1 9 rfl rfl)
theorem dX2_add_34 : decode cX2_add 34 = .ok (.lstore 4, 2) := dk_55 4 (dk_at dksX2_add_1 10 rfl rfl)
theorem dX2_add_36 : decode cX2_add 36 = .ok (.aload_n 3, 1) := dk_45 (dk_at dksX2_add_1 12 rfl rfl)
theorem dX2_add_37 : decode cX2_add 37 = .ok (.iload 6, 2) := dk_21 6 (dk_at dksX2_add_1 13 rfl rfl)
theorem dX2_add_39 : decode cX2_add 39 = .ok (.lload 4, 2) := dk_22 4 (dk_at dksX2_add_1 15 rfl rfl)
theorem dX2_add_41 : decode cX2_add 41 = .ok (.l2i, 1) := dk_136 (dk_at dksX2_add_1 17 rfl rfl)
theorem dX2_add_42 : decode cX2_add 42 = .ok (.iastore, 1) := dk_79 (dk_at dksX2_add_1 18 rfl rfl)
theorem dX2_add_43 : decode cX2_add 43 = .ok (.lload 4, 2) := dk_22 4 (dk_at dksX2_add_1 19 rfl rfl)
theorem dX2_add_45 : decode cX2_add 45 = .ok (.bipush 32, 2) := dk_16 32 (dk_at dksX2_add_1 21 rfl rfl)
theorem dX2_add_47 : decode cX2_add 47 = .ok (.lushr, 1) := dk_125 (dk_at dksX2_add_1 23 rfl rfl)
theorem dX2_add_48 : decode cX2_add 48 = .ok (.lstore 4, 2) := dk_55 4 (dk_at dksX2_add_2 0 rfl rfl)
theorem dX2_add_50 : decode cX2_add 50 = .ok (.iinc 6 1, 3) := dk_132 6 1 (dk_at dksX2_add_2 2 rfl rfl)
theorem dX2_add_53 : decode cX2_add 53 = .ok (.goto (-47), 3) := dk_167 255 209 (dk_at dksX2_add_2 5 rfl rfl)
theorem dX2_add_56 : decode cX2_add 56 = .ok (.lload 4, 2) := dk_22 4 (dk_at dksX2_add_2 8 rfl rfl)
theorem dX2_add_58 : decode cX2_add 58 = .ok (.l2i, 1) := dk_136 (dk_at dksX2_add_2 10 rfl rfl)
theorem dX2_add_59 : decode cX2_add 59 = .ok (.ireturn, 1) := dk_172 (dk_at dksX2_add_2 11 rfl rfl)
abbrev cX2_sub : ByteArray := prog_1_method_15_code
def yX2_sub : MethodName := ⟨RX2, "sub", "(I[I[I[I)I"⟩
def dkwX2_sub_2 : List UInt8 := [55, 4, 132, 6, 1, 167, 255, 209, 22, 4, 136, 172]
abbrev dktX2_sub_2 : List UInt8 := dkwX2_sub_2 ++ []
def dkwX2_sub_1 : List UInt8 := [21, 6, 46, 133, 20, 0, 9, 127, 101, 97, 55, 4, 45, 21, 6, 22, 4, 136, 79, 22, 4, 16, 32, 123]
abbrev dktX2_sub_1 : List UInt8 := dkwX2_sub_1 ++ dktX2_sub_2
def dkwX2_sub_0 : List UInt8 := [9, 55, 4, 3, 54, 6, 21, 6, 26, 162, 0, 47, 22, 4, 43, 21, 6, 46, 133, 20, 0, 9, 127, 44]
abbrev dktX2_sub_0 : List UInt8 := dkwX2_sub_0 ++ dktX2_sub_1
theorem dksX2_sub_0 : cX2_sub.data.toList.drop 0 = dktX2_sub_0 := by decide +kernel
theorem dksX2_sub_1 : cX2_sub.data.toList.drop 24 = dktX2_sub_1 := dk_seg dksX2_sub_0 24 rfl rfl
theorem dksX2_sub_2 : cX2_sub.data.toList.drop 48 = dktX2_sub_2 := dk_seg dksX2_sub_1 24 rfl rfl
theorem dX2_sub_0 : decode cX2_sub 0 = .ok (.lconst 0, 1) := dk_9 (dk_at dksX2_sub_0 0 rfl rfl)
theorem dX2_sub_1 : decode cX2_sub 1 = .ok (.lstore 4, 2) := dk_55 4 (dk_at dksX2_sub_0 1 rfl rfl)
theorem dX2_sub_3 : decode cX2_sub 3 = .ok (.iconst 0, 1) := dk_3 (dk_at dksX2_sub_0 3 rfl rfl)
theorem dX2_sub_4 : decode cX2_sub 4 = .ok (.istore 6, 2) := dk_54 6 (dk_at dksX2_sub_0 4 rfl rfl)
theorem dX2_sub_6 : decode cX2_sub 6 = .ok (.iload 6, 2) := dk_21 6 (dk_at dksX2_sub_0 6 rfl rfl)
theorem dX2_sub_8 : decode cX2_sub 8 = .ok (.iload_n 0, 1) := dk_26 (dk_at dksX2_sub_0 8 rfl rfl)
theorem dX2_sub_9 : decode cX2_sub 9 = .ok (.if_icmp .ge 47, 3) := dk_162 0 47 (dk_at dksX2_sub_0 9 rfl rfl)
theorem dX2_sub_12 : decode cX2_sub 12 = .ok (.lload 4, 2) := dk_22 4 (dk_at dksX2_sub_0 12 rfl rfl)
theorem dX2_sub_14 : decode cX2_sub 14 = .ok (.aload_n 1, 1) := dk_43 (dk_at dksX2_sub_0 14 rfl rfl)
theorem dX2_sub_15 : decode cX2_sub 15 = .ok (.iload 6, 2) := dk_21 6 (dk_at dksX2_sub_0 15 rfl rfl)
theorem dX2_sub_17 : decode cX2_sub 17 = .ok (.iaload, 1) := dk_46 (dk_at dksX2_sub_0 17 rfl rfl)
theorem dX2_sub_18 : decode cX2_sub 18 = .ok (.i2l, 1) := dk_133 (dk_at dksX2_sub_0 18 rfl rfl)
theorem dX2_sub_19 : decode cX2_sub 19 = .ok (.ldc2_w 9, 3) := dk_20 0 9 (dk_at dksX2_sub_0 19 rfl rfl)
theorem dX2_sub_22 : decode cX2_sub 22 = .ok (.land, 1) := dk_127 (dk_at dksX2_sub_0 22 rfl rfl)
theorem dX2_sub_23 : decode cX2_sub 23 = .ok (.aload_n 2, 1) := dk_44 (dk_at dksX2_sub_0 23 rfl rfl)
theorem dX2_sub_24 : decode cX2_sub 24 = .ok (.iload 6, 2) := dk_21 6 (dk_at dksX2_sub_1 0 rfl rfl)
theorem dX2_sub_26 : decode cX2_sub 26 = .ok (.iaload, 1) := dk_46 (dk_at dksX2_sub_1 2 rfl rfl)
theorem dX2_sub_27 : decode cX2_sub 27 = .ok (.i2l, 1) := dk_133 (dk_at dksX2_sub_1 3 rfl rfl)
theorem dX2_sub_28 : decode cX2_sub 28 = .ok (.ldc2_w 9, 3) := dk_20 0 9 (dk_at dksX2_sub_1 4 rfl rfl)
theorem dX2_sub_31 : decode cX2_sub 31 = .ok (.land, 1) := dk_127 (dk_at dksX2_sub_1 7 rfl rfl)
theorem dX2_sub_32 : decode cX2_sub 32 = .ok (.lsub, 1) := dk_101 (dk_at dksX2_sub_1 8 rfl rfl)
theorem dX2_sub_33 : decode cX2_sub 33 = .ok (.ladd, 1) := dk_97 (dk_at dksX2_sub_1 9 rfl rfl)
theorem dX2_sub_34 : decode cX2_sub 34 = .ok (.lstore 4, 2) := dk_55 4 (dk_at dksX2_sub_1 10 rfl rfl)
theorem dX2_sub_36 : decode cX2_sub 36 = .ok (.aload_n 3, 1) := dk_45 (dk_at dksX2_sub_1 12 rfl rfl)
theorem dX2_sub_37 : decode cX2_sub 37 = .ok (.iload 6, 2) := dk_21 6 (dk_at dksX2_sub_1 13 rfl rfl)
theorem dX2_sub_39 : decode cX2_sub 39 = .ok (.lload 4, 2) := dk_22 4 (dk_at dksX2_sub_1 15 rfl rfl)
theorem dX2_sub_41 : decode cX2_sub 41 = .ok (.l2i, 1) := dk_136 (dk_at dksX2_sub_1 17 rfl rfl)
theorem dX2_sub_42 : decode cX2_sub 42 = .ok (.iastore, 1) := dk_79 (dk_at dksX2_sub_1 18 rfl rfl)
theorem dX2_sub_43 : decode cX2_sub 43 = .ok (.lload 4, 2) := dk_22 4 (dk_at dksX2_sub_1 19 rfl rfl)
theorem dX2_sub_45 : decode cX2_sub 45 = .ok (.bipush 32, 2) := dk_16 32 (dk_at dksX2_sub_1 21 rfl rfl)
theorem dX2_sub_47 : decode cX2_sub 47 = .ok (.lshr, 1) := dk_123 (dk_at dksX2_sub_1 23 rfl rfl)
theorem dX2_sub_48 : decode cX2_sub 48 = .ok (.lstore 4, 2) := dk_55 4 (dk_at dksX2_sub_2 0 rfl rfl)
theorem dX2_sub_50 : decode cX2_sub 50 = .ok (.iinc 6 1, 3) := dk_132 6 1 (dk_at dksX2_sub_2 2 rfl rfl)
theorem dX2_sub_53 : decode cX2_sub 53 = .ok (.goto (-47), 3) := dk_167 255 209 (dk_at dksX2_sub_2 5 rfl rfl)
theorem dX2_sub_56 : decode cX2_sub 56 = .ok (.lload 4, 2) := dk_22 4 (dk_at dksX2_sub_2 8 rfl rfl)
theorem dX2_sub_58 : decode cX2_sub 58 = .ok (.l2i, 1) := dk_136 (dk_at dksX2_sub_2 10 rfl rfl)
theorem dX2_sub_59 : decode cX2_sub 59 = .ok (.ireturn, 1) := dk_172 (dk_at dksX2_sub_2 11 rfl rfl)
abbrev cX2_mul : ByteArray := prog_1_method_6_code
def yX2_mul : MethodName := ⟨RX2, "mul", "(I[I[I[I)V"⟩
def dkwX2_mul_1 : List UInt8 := [26, 96, 26, 43, 21, 4, 46, 44, 3, 45, 21, 4, 184, 0, 18, 79, 132, 4, 1, 167, 255, 228, 177]
abbrev dktX2_mul_1 : List UInt8 := dkwX2_mul_1 ++ []
def dkwX2_mul_0 : List UInt8 := [45, 26, 26, 43, 3, 46, 44, 45, 184, 0, 14, 79, 4, 54, 4, 21, 4, 26, 162, 0, 28, 45, 21, 4]
abbrev dktX2_mul_0 : List UInt8 := dkwX2_mul_0 ++ dktX2_mul_1
theorem dksX2_mul_0 : cX2_mul.data.toList.drop 0 = dktX2_mul_0 := by decide +kernel
theorem dksX2_mul_1 : cX2_mul.data.toList.drop 24 = dktX2_mul_1 := dk_seg dksX2_mul_0 24 rfl rfl
theorem dX2_mul_0 : decode cX2_mul 0 = .ok (.aload_n 3, 1) := dk_45 (dk_at dksX2_mul_0 0 rfl rfl)
theorem dX2_mul_1 : decode cX2_mul 1 = .ok (.iload_n 0, 1) := dk_26 (dk_at dksX2_mul_0 1 rfl rfl)
theorem dX2_mul_2 : decode cX2_mul 2 = .ok (.iload_n 0, 1) := dk_26 (dk_at dksX2_mul_0 2 rfl rfl)
theorem dX2_mul_3 : decode cX2_mul 3 = .ok (.aload_n 1, 1) := dk_43 (dk_at dksX2_mul_0 3 rfl rfl)
theorem dX2_mul_4 : decode cX2_mul 4 = .ok (.iconst 0, 1) := dk_3 (dk_at dksX2_mul_0 4 rfl rfl)
theorem dX2_mul_5 : decode cX2_mul 5 = .ok (.iaload, 1) := dk_46 (dk_at dksX2_mul_0 5 rfl rfl)
theorem dX2_mul_6 : decode cX2_mul 6 = .ok (.aload_n 2, 1) := dk_44 (dk_at dksX2_mul_0 6 rfl rfl)
theorem dX2_mul_7 : decode cX2_mul 7 = .ok (.aload_n 3, 1) := dk_45 (dk_at dksX2_mul_0 7 rfl rfl)
theorem dX2_mul_8 : decode cX2_mul 8 = .ok (.invokestatic 14, 3) := dk_184 0 14 (dk_at dksX2_mul_0 8 rfl rfl)
theorem dX2_mul_11 : decode cX2_mul 11 = .ok (.iastore, 1) := dk_79 (dk_at dksX2_mul_0 11 rfl rfl)
theorem dX2_mul_12 : decode cX2_mul 12 = .ok (.iconst 1, 1) := dk_4 (dk_at dksX2_mul_0 12 rfl rfl)
theorem dX2_mul_13 : decode cX2_mul 13 = .ok (.istore 4, 2) := dk_54 4 (dk_at dksX2_mul_0 13 rfl rfl)
theorem dX2_mul_15 : decode cX2_mul 15 = .ok (.iload 4, 2) := dk_21 4 (dk_at dksX2_mul_0 15 rfl rfl)
theorem dX2_mul_17 : decode cX2_mul 17 = .ok (.iload_n 0, 1) := dk_26 (dk_at dksX2_mul_0 17 rfl rfl)
theorem dX2_mul_18 : decode cX2_mul 18 = .ok (.if_icmp .ge 28, 3) := dk_162 0 28 (dk_at dksX2_mul_0 18 rfl rfl)
theorem dX2_mul_21 : decode cX2_mul 21 = .ok (.aload_n 3, 1) := dk_45 (dk_at dksX2_mul_0 21 rfl rfl)
theorem dX2_mul_22 : decode cX2_mul 22 = .ok (.iload 4, 2) := dk_21 4 (dk_at dksX2_mul_0 22 rfl rfl)
theorem dX2_mul_24 : decode cX2_mul 24 = .ok (.iload_n 0, 1) := dk_26 (dk_at dksX2_mul_1 0 rfl rfl)
theorem dX2_mul_25 : decode cX2_mul 25 = .ok (.iadd, 1) := dk_96 (dk_at dksX2_mul_1 1 rfl rfl)
theorem dX2_mul_26 : decode cX2_mul 26 = .ok (.iload_n 0, 1) := dk_26 (dk_at dksX2_mul_1 2 rfl rfl)
theorem dX2_mul_27 : decode cX2_mul 27 = .ok (.aload_n 1, 1) := dk_43 (dk_at dksX2_mul_1 3 rfl rfl)
theorem dX2_mul_28 : decode cX2_mul 28 = .ok (.iload 4, 2) := dk_21 4 (dk_at dksX2_mul_1 4 rfl rfl)
theorem dX2_mul_30 : decode cX2_mul 30 = .ok (.iaload, 1) := dk_46 (dk_at dksX2_mul_1 6 rfl rfl)
theorem dX2_mul_31 : decode cX2_mul 31 = .ok (.aload_n 2, 1) := dk_44 (dk_at dksX2_mul_1 7 rfl rfl)
theorem dX2_mul_32 : decode cX2_mul 32 = .ok (.iconst 0, 1) := dk_3 (dk_at dksX2_mul_1 8 rfl rfl)
theorem dX2_mul_33 : decode cX2_mul 33 = .ok (.aload_n 3, 1) := dk_45 (dk_at dksX2_mul_1 9 rfl rfl)
theorem dX2_mul_34 : decode cX2_mul 34 = .ok (.iload 4, 2) := dk_21 4 (dk_at dksX2_mul_1 10 rfl rfl)
theorem dX2_mul_36 : decode cX2_mul 36 = .ok (.invokestatic 18, 3) := dk_184 0 18 (dk_at dksX2_mul_1 12 rfl rfl)
theorem dX2_mul_39 : decode cX2_mul 39 = .ok (.iastore, 1) := dk_79 (dk_at dksX2_mul_1 15 rfl rfl)
theorem dX2_mul_40 : decode cX2_mul 40 = .ok (.iinc 4 1, 3) := dk_132 4 1 (dk_at dksX2_mul_1 16 rfl rfl)
theorem dX2_mul_43 : decode cX2_mul 43 = .ok (.goto (-28), 3) := dk_167 255 228 (dk_at dksX2_mul_1 19 rfl rfl)
theorem dX2_mul_46 : decode cX2_mul 46 = .ok (.return_, 1) := dk_177 (dk_at dksX2_mul_1 22 rfl rfl)
abbrev cX2_mulWord : ByteArray := prog_1_method_8_code
def yX2_mulWord : MethodName := ⟨RX2, "mulWord", "(II[I[I)I"⟩
def dkwX2_mulWord_2 : List UInt8 := [132, 8, 1, 21, 8, 26, 161, 255, 219, 22, 4, 136, 172]
abbrev dktX2_mulWord_2 : List UInt8 := dkwX2_mulWord_2 ++ []
def dkwX2_mulWord_1 : List UInt8 := [20, 0, 9, 127, 105, 97, 55, 4, 45, 21, 8, 22, 4, 136, 79, 22, 4, 16, 32, 125, 55, 4]
abbrev dktX2_mulWord_1 : List UInt8 := dkwX2_mulWord_1 ++ dktX2_mulWord_2
def dkwX2_mulWord_0 : List UInt8 := [9, 55, 4, 27, 133, 20, 0, 9, 127, 55, 6, 3, 54, 8, 22, 4, 22, 6, 44, 21, 8, 46, 133]
abbrev dktX2_mulWord_0 : List UInt8 := dkwX2_mulWord_0 ++ dktX2_mulWord_1
theorem dksX2_mulWord_0 : cX2_mulWord.data.toList.drop 0 = dktX2_mulWord_0 := by decide +kernel
theorem dksX2_mulWord_1 : cX2_mulWord.data.toList.drop 23 = dktX2_mulWord_1 := dk_seg dksX2_mulWord_0 23 rfl rfl
theorem dksX2_mulWord_2 : cX2_mulWord.data.toList.drop 45 = dktX2_mulWord_2 := dk_seg dksX2_mulWord_1 22 rfl rfl
theorem dX2_mulWord_0 : decode cX2_mulWord 0 = .ok (.lconst 0, 1) := dk_9 (dk_at dksX2_mulWord_0 0 rfl rfl)
theorem dX2_mulWord_1 : decode cX2_mulWord 1 = .ok (.lstore 4, 2) := dk_55 4 (dk_at dksX2_mulWord_0 1 rfl rfl)
theorem dX2_mulWord_3 : decode cX2_mulWord 3 = .ok (.iload_n 1, 1) := dk_27 (dk_at dksX2_mulWord_0 3 rfl rfl)
theorem dX2_mulWord_4 : decode cX2_mulWord 4 = .ok (.i2l, 1) := dk_133 (dk_at dksX2_mulWord_0 4 rfl rfl)
theorem dX2_mulWord_5 : decode cX2_mulWord 5 = .ok (.ldc2_w 9, 3) := dk_20 0 9 (dk_at dksX2_mulWord_0 5 rfl rfl)
theorem dX2_mulWord_8 : decode cX2_mulWord 8 = .ok (.land, 1) := dk_127 (dk_at dksX2_mulWord_0 8 rfl rfl)
theorem dX2_mulWord_9 : decode cX2_mulWord 9 = .ok (.lstore 6, 2) := dk_55 6 (dk_at dksX2_mulWord_0 9 rfl rfl)
theorem dX2_mulWord_11 : decode cX2_mulWord 11 = .ok (.iconst 0, 1) := dk_3 (dk_at dksX2_mulWord_0 11 rfl rfl)
theorem dX2_mulWord_12 : decode cX2_mulWord 12 = .ok (.istore 8, 2) := dk_54 8 (dk_at dksX2_mulWord_0 12 rfl rfl)
theorem dX2_mulWord_14 : decode cX2_mulWord 14 = .ok (.lload 4, 2) := dk_22 4 (dk_at dksX2_mulWord_0 14 rfl rfl)
theorem dX2_mulWord_16 : decode cX2_mulWord 16 = .ok (.lload 6, 2) := dk_22 6 (dk_at dksX2_mulWord_0 16 rfl rfl)
theorem dX2_mulWord_18 : decode cX2_mulWord 18 = .ok (.aload_n 2, 1) := dk_44 (dk_at dksX2_mulWord_0 18 rfl rfl)
theorem dX2_mulWord_19 : decode cX2_mulWord 19 = .ok (.iload 8, 2) := dk_21 8 (dk_at dksX2_mulWord_0 19 rfl rfl)
theorem dX2_mulWord_21 : decode cX2_mulWord 21 = .ok (.iaload, 1) := dk_46 (dk_at dksX2_mulWord_0 21 rfl rfl)
theorem dX2_mulWord_22 : decode cX2_mulWord 22 = .ok (.i2l, 1) := dk_133 (dk_at dksX2_mulWord_0 22 rfl rfl)
theorem dX2_mulWord_23 : decode cX2_mulWord 23 = .ok (.ldc2_w 9, 3) := dk_20 0 9 (dk_at dksX2_mulWord_1 0 rfl rfl)
theorem dX2_mulWord_26 : decode cX2_mulWord 26 = .ok (.land, 1) := dk_127 (dk_at dksX2_mulWord_1 3 rfl rfl)
theorem dX2_mulWord_27 : decode cX2_mulWord 27 = .ok (.lmul, 1) := dk_105 (dk_at dksX2_mulWord_1 4 rfl rfl)
theorem dX2_mulWord_28 : decode cX2_mulWord 28 = .ok (.ladd, 1) := dk_97 (dk_at dksX2_mulWord_1 5 rfl rfl)
theorem dX2_mulWord_29 : decode cX2_mulWord 29 = .ok (.lstore 4, 2) := dk_55 4 (dk_at dksX2_mulWord_1 6 rfl rfl)
theorem dX2_mulWord_31 : decode cX2_mulWord 31 = .ok (.aload_n 3, 1) := dk_45 (dk_at dksX2_mulWord_1 8 rfl rfl)
theorem dX2_mulWord_32 : decode cX2_mulWord 32 = .ok (.iload 8, 2) := dk_21 8 (dk_at dksX2_mulWord_1 9 rfl rfl)
theorem dX2_mulWord_34 : decode cX2_mulWord 34 = .ok (.lload 4, 2) := dk_22 4 (dk_at dksX2_mulWord_1 11 rfl rfl)
theorem dX2_mulWord_36 : decode cX2_mulWord 36 = .ok (.l2i, 1) := dk_136 (dk_at dksX2_mulWord_1 13 rfl rfl)
theorem dX2_mulWord_37 : decode cX2_mulWord 37 = .ok (.iastore, 1) := dk_79 (dk_at dksX2_mulWord_1 14 rfl rfl)
theorem dX2_mulWord_38 : decode cX2_mulWord 38 = .ok (.lload 4, 2) := dk_22 4 (dk_at dksX2_mulWord_1 15 rfl rfl)
theorem dX2_mulWord_40 : decode cX2_mulWord 40 = .ok (.bipush 32, 2) := dk_16 32 (dk_at dksX2_mulWord_1 17 rfl rfl)
theorem dX2_mulWord_42 : decode cX2_mulWord 42 = .ok (.lushr, 1) := dk_125 (dk_at dksX2_mulWord_1 19 rfl rfl)
theorem dX2_mulWord_43 : decode cX2_mulWord 43 = .ok (.lstore 4, 2) := dk_55 4 (dk_at dksX2_mulWord_1 20 rfl rfl)
theorem dX2_mulWord_45 : decode cX2_mulWord 45 = .ok (.iinc 8 1, 3) := dk_132 8 1 (dk_at dksX2_mulWord_2 0 rfl rfl)
theorem dX2_mulWord_48 : decode cX2_mulWord 48 = .ok (.iload 8, 2) := dk_21 8 (dk_at dksX2_mulWord_2 3 rfl rfl)
theorem dX2_mulWord_50 : decode cX2_mulWord 50 = .ok (.iload_n 0, 1) := dk_26 (dk_at dksX2_mulWord_2 5 rfl rfl)
theorem dX2_mulWord_51 : decode cX2_mulWord 51 = .ok (.if_icmp .lt (-37), 3) := dk_161 255 219 (dk_at dksX2_mulWord_2 6 rfl rfl)
theorem dX2_mulWord_54 : decode cX2_mulWord 54 = .ok (.lload 4, 2) := dk_22 4 (dk_at dksX2_mulWord_2 9 rfl rfl)
theorem dX2_mulWord_56 : decode cX2_mulWord 56 = .ok (.l2i, 1) := dk_136 (dk_at dksX2_mulWord_2 11 rfl rfl)
theorem dX2_mulWord_57 : decode cX2_mulWord 57 = .ok (.ireturn, 1) := dk_172 (dk_at dksX2_mulWord_2 12 rfl rfl)
abbrev cX2_mulWordAddTo : ByteArray := prog_1_method_9_code
def yX2_mulWordAddTo : MethodName := ⟨RX2, "mulWordAddTo", "(II[II[II)I"⟩
def dkwX2_mulWordAddTo_3 : List UInt8 := [161, 255, 199, 22, 6, 136, 172]
abbrev dktX2_mulWordAddTo_3 : List UInt8 := dkwX2_mulWordAddTo_3 ++ []
def dkwX2_mulWordAddTo_2 : List UInt8 := [25, 4, 21, 5, 21, 10, 96, 22, 6, 136, 79, 22, 6, 16, 32, 125, 55, 6, 132, 10, 1, 21, 10, 26]
abbrev dktX2_mulWordAddTo_2 : List UInt8 := dkwX2_mulWordAddTo_2 ++ dktX2_mulWordAddTo_3
def dkwX2_mulWordAddTo_1 : List UInt8 := [133, 20, 0, 9, 127, 105, 25, 4, 21, 5, 21, 10, 96, 46, 133, 20, 0, 9, 127, 97, 97, 55, 6]
abbrev dktX2_mulWordAddTo_1 : List UInt8 := dkwX2_mulWordAddTo_1 ++ dktX2_mulWordAddTo_2
def dkwX2_mulWordAddTo_0 : List UInt8 := [9, 55, 6, 27, 133, 20, 0, 9, 127, 55, 8, 3, 54, 10, 22, 6, 22, 8, 44, 29, 21, 10, 96, 46]
abbrev dktX2_mulWordAddTo_0 : List UInt8 := dkwX2_mulWordAddTo_0 ++ dktX2_mulWordAddTo_1
theorem dksX2_mulWordAddTo_0 : cX2_mulWordAddTo.data.toList.drop 0 = dktX2_mulWordAddTo_0 := by decide +kernel
theorem dksX2_mulWordAddTo_1 : cX2_mulWordAddTo.data.toList.drop 24 = dktX2_mulWordAddTo_1 := dk_seg dksX2_mulWordAddTo_0 24 rfl rfl
theorem dksX2_mulWordAddTo_2 : cX2_mulWordAddTo.data.toList.drop 47 = dktX2_mulWordAddTo_2 := dk_seg dksX2_mulWordAddTo_1 23 rfl rfl
theorem dksX2_mulWordAddTo_3 : cX2_mulWordAddTo.data.toList.drop 71 = dktX2_mulWordAddTo_3 := dk_seg dksX2_mulWordAddTo_2 24 rfl rfl
theorem dX2_mulWordAddTo_0 : decode cX2_mulWordAddTo 0 = .ok (.lconst 0, 1) := dk_9 (dk_at dksX2_mulWordAddTo_0 0 rfl rfl)
theorem dX2_mulWordAddTo_1 : decode cX2_mulWordAddTo 1 = .ok (.lstore 6, 2) := dk_55 6 (dk_at dksX2_mulWordAddTo_0 1 rfl rfl)
theorem dX2_mulWordAddTo_3 : decode cX2_mulWordAddTo 3 = .ok (.iload_n 1, 1) := dk_27 (dk_at dksX2_mulWordAddTo_0 3 rfl rfl)
theorem dX2_mulWordAddTo_4 : decode cX2_mulWordAddTo 4 = .ok (.i2l, 1) := dk_133 (dk_at dksX2_mulWordAddTo_0 4 rfl rfl)
theorem dX2_mulWordAddTo_5 : decode cX2_mulWordAddTo 5 = .ok (.ldc2_w 9, 3) := dk_20 0 9 (dk_at dksX2_mulWordAddTo_0 5 rfl rfl)
theorem dX2_mulWordAddTo_8 : decode cX2_mulWordAddTo 8 = .ok (.land, 1) := dk_127 (dk_at dksX2_mulWordAddTo_0 8 rfl rfl)
theorem dX2_mulWordAddTo_9 : decode cX2_mulWordAddTo 9 = .ok (.lstore 8, 2) := dk_55 8 (dk_at dksX2_mulWordAddTo_0 9 rfl rfl)
theorem dX2_mulWordAddTo_11 : decode cX2_mulWordAddTo 11 = .ok (.iconst 0, 1) := dk_3 (dk_at dksX2_mulWordAddTo_0 11 rfl rfl)
theorem dX2_mulWordAddTo_12 : decode cX2_mulWordAddTo 12 = .ok (.istore 10, 2) := dk_54 10 (dk_at dksX2_mulWordAddTo_0 12 rfl rfl)
theorem dX2_mulWordAddTo_14 : decode cX2_mulWordAddTo 14 = .ok (.lload 6, 2) := dk_22 6 (dk_at dksX2_mulWordAddTo_0 14 rfl rfl)
theorem dX2_mulWordAddTo_16 : decode cX2_mulWordAddTo 16 = .ok (.lload 8, 2) := dk_22 8 (dk_at dksX2_mulWordAddTo_0 16 rfl rfl)
theorem dX2_mulWordAddTo_18 : decode cX2_mulWordAddTo 18 = .ok (.aload_n 2, 1) := dk_44 (dk_at dksX2_mulWordAddTo_0 18 rfl rfl)
theorem dX2_mulWordAddTo_19 : decode cX2_mulWordAddTo 19 = .ok (.iload_n 3, 1) := dk_29 (dk_at dksX2_mulWordAddTo_0 19 rfl rfl)
theorem dX2_mulWordAddTo_20 : decode cX2_mulWordAddTo 20 = .ok (.iload 10, 2) := dk_21 10 (dk_at dksX2_mulWordAddTo_0 20 rfl rfl)
theorem dX2_mulWordAddTo_22 : decode cX2_mulWordAddTo 22 = .ok (.iadd, 1) := dk_96 (dk_at dksX2_mulWordAddTo_0 22 rfl rfl)
theorem dX2_mulWordAddTo_23 : decode cX2_mulWordAddTo 23 = .ok (.iaload, 1) := dk_46 (dk_at dksX2_mulWordAddTo_0 23 rfl rfl)
theorem dX2_mulWordAddTo_24 : decode cX2_mulWordAddTo 24 = .ok (.i2l, 1) := dk_133 (dk_at dksX2_mulWordAddTo_1 0 rfl rfl)
theorem dX2_mulWordAddTo_25 : decode cX2_mulWordAddTo 25 = .ok (.ldc2_w 9, 3) := dk_20 0 9 (dk_at dksX2_mulWordAddTo_1 1 rfl rfl)
theorem dX2_mulWordAddTo_28 : decode cX2_mulWordAddTo 28 = .ok (.land, 1) := dk_127 (dk_at dksX2_mulWordAddTo_1 4 rfl rfl)
theorem dX2_mulWordAddTo_29 : decode cX2_mulWordAddTo 29 = .ok (.lmul, 1) := dk_105 (dk_at dksX2_mulWordAddTo_1 5 rfl rfl)
theorem dX2_mulWordAddTo_30 : decode cX2_mulWordAddTo 30 = .ok (.aload 4, 2) := dk_25 4 (dk_at dksX2_mulWordAddTo_1 6 rfl rfl)
theorem dX2_mulWordAddTo_32 : decode cX2_mulWordAddTo 32 = .ok (.iload 5, 2) := dk_21 5 (dk_at dksX2_mulWordAddTo_1 8 rfl rfl)
theorem dX2_mulWordAddTo_34 : decode cX2_mulWordAddTo 34 = .ok (.iload 10, 2) := dk_21 10 (dk_at dksX2_mulWordAddTo_1 10 rfl rfl)
theorem dX2_mulWordAddTo_36 : decode cX2_mulWordAddTo 36 = .ok (.iadd, 1) := dk_96 (dk_at dksX2_mulWordAddTo_1 12 rfl rfl)
theorem dX2_mulWordAddTo_37 : decode cX2_mulWordAddTo 37 = .ok (.iaload, 1) := dk_46 (dk_at dksX2_mulWordAddTo_1 13 rfl rfl)
theorem dX2_mulWordAddTo_38 : decode cX2_mulWordAddTo 38 = .ok (.i2l, 1) := dk_133 (dk_at dksX2_mulWordAddTo_1 14 rfl rfl)
theorem dX2_mulWordAddTo_39 : decode cX2_mulWordAddTo 39 = .ok (.ldc2_w 9, 3) := dk_20 0 9 (dk_at dksX2_mulWordAddTo_1 15 rfl rfl)
theorem dX2_mulWordAddTo_42 : decode cX2_mulWordAddTo 42 = .ok (.land, 1) := dk_127 (dk_at dksX2_mulWordAddTo_1 18 rfl rfl)
theorem dX2_mulWordAddTo_43 : decode cX2_mulWordAddTo 43 = .ok (.ladd, 1) := dk_97 (dk_at dksX2_mulWordAddTo_1 19 rfl rfl)
theorem dX2_mulWordAddTo_44 : decode cX2_mulWordAddTo 44 = .ok (.ladd, 1) := dk_97 (dk_at dksX2_mulWordAddTo_1 20 rfl rfl)
theorem dX2_mulWordAddTo_45 : decode cX2_mulWordAddTo 45 = .ok (.lstore 6, 2) := dk_55 6 (dk_at dksX2_mulWordAddTo_1 21 rfl rfl)
theorem dX2_mulWordAddTo_47 : decode cX2_mulWordAddTo 47 = .ok (.aload 4, 2) := dk_25 4 (dk_at dksX2_mulWordAddTo_2 0 rfl rfl)
theorem dX2_mulWordAddTo_49 : decode cX2_mulWordAddTo 49 = .ok (.iload 5, 2) := dk_21 5 (dk_at dksX2_mulWordAddTo_2 2 rfl rfl)
theorem dX2_mulWordAddTo_51 : decode cX2_mulWordAddTo 51 = .ok (.iload 10, 2) := dk_21 10 (dk_at dksX2_mulWordAddTo_2 4 rfl rfl)
theorem dX2_mulWordAddTo_53 : decode cX2_mulWordAddTo 53 = .ok (.iadd, 1) := dk_96 (dk_at dksX2_mulWordAddTo_2 6 rfl rfl)
theorem dX2_mulWordAddTo_54 : decode cX2_mulWordAddTo 54 = .ok (.lload 6, 2) := dk_22 6 (dk_at dksX2_mulWordAddTo_2 7 rfl rfl)
theorem dX2_mulWordAddTo_56 : decode cX2_mulWordAddTo 56 = .ok (.l2i, 1) := dk_136 (dk_at dksX2_mulWordAddTo_2 9 rfl rfl)
theorem dX2_mulWordAddTo_57 : decode cX2_mulWordAddTo 57 = .ok (.iastore, 1) := dk_79 (dk_at dksX2_mulWordAddTo_2 10 rfl rfl)
theorem dX2_mulWordAddTo_58 : decode cX2_mulWordAddTo 58 = .ok (.lload 6, 2) := dk_22 6 (dk_at dksX2_mulWordAddTo_2 11 rfl rfl)
theorem dX2_mulWordAddTo_60 : decode cX2_mulWordAddTo 60 = .ok (.bipush 32, 2) := dk_16 32 (dk_at dksX2_mulWordAddTo_2 13 rfl rfl)
theorem dX2_mulWordAddTo_62 : decode cX2_mulWordAddTo 62 = .ok (.lushr, 1) := dk_125 (dk_at dksX2_mulWordAddTo_2 15 rfl rfl)
theorem dX2_mulWordAddTo_63 : decode cX2_mulWordAddTo 63 = .ok (.lstore 6, 2) := dk_55 6 (dk_at dksX2_mulWordAddTo_2 16 rfl rfl)
theorem dX2_mulWordAddTo_65 : decode cX2_mulWordAddTo 65 = .ok (.iinc 10 1, 3) := dk_132 10 1 (dk_at dksX2_mulWordAddTo_2 18 rfl rfl)
theorem dX2_mulWordAddTo_68 : decode cX2_mulWordAddTo 68 = .ok (.iload 10, 2) := dk_21 10 (dk_at dksX2_mulWordAddTo_2 21 rfl rfl)
theorem dX2_mulWordAddTo_70 : decode cX2_mulWordAddTo 70 = .ok (.iload_n 0, 1) := dk_26 (dk_at dksX2_mulWordAddTo_2 23 rfl rfl)
theorem dX2_mulWordAddTo_71 : decode cX2_mulWordAddTo 71 = .ok (.if_icmp .lt (-57), 3) := dk_161 255 199 (dk_at dksX2_mulWordAddTo_3 0 rfl rfl)
theorem dX2_mulWordAddTo_74 : decode cX2_mulWordAddTo 74 = .ok (.lload 6, 2) := dk_22 6 (dk_at dksX2_mulWordAddTo_3 3 rfl rfl)
theorem dX2_mulWordAddTo_76 : decode cX2_mulWordAddTo 76 = .ok (.l2i, 1) := dk_136 (dk_at dksX2_mulWordAddTo_3 5 rfl rfl)
theorem dX2_mulWordAddTo_77 : decode cX2_mulWordAddTo 77 = .ok (.ireturn, 1) := dk_172 (dk_at dksX2_mulWordAddTo_3 6 rfl rfl)
abbrev cX2_square : ByteArray := prog_1_method_13_code
def yX2_square : MethodName := ⟨RX2, "square", "(I[I[I)V"⟩
def dkwX2_square_7 : List UInt8 := [16, 32, 125, 55, 7, 132, 10, 1, 167, 255, 168, 29, 44, 43, 3, 46, 16, 31, 120, 184, 0, 26, 87, 177]
abbrev dktX2_square_7 : List UInt8 := dkwX2_square_7 ++ []
def dkwX2_square_6 : List UInt8 := [21, 9, 46, 133, 20, 0, 9, 127, 97, 55, 7, 44, 21, 9, 132, 9, 1, 22, 7, 136, 79, 22, 7]
abbrev dktX2_square_6 : List UInt8 := dkwX2_square_6 ++ dktX2_square_7
def dkwX2_square_5 : List UInt8 := [127, 97, 55, 7, 44, 21, 9, 132, 9, 1, 22, 7, 136, 79, 22, 7, 16, 32, 125, 55, 7, 22, 7, 44]
abbrev dktX2_square_5 : List UInt8 := dkwX2_square_5 ++ dktX2_square_6
def dkwX2_square_4 : List UInt8 := [21, 10, 44, 184, 0, 22, 133, 20, 0, 9, 127, 97, 55, 7, 22, 7, 44, 21, 9, 46, 133, 20, 0, 9]
abbrev dktX2_square_4 : List UInt8 := dkwX2_square_4 ++ dktX2_square_5
def dkwX2_square_3 : List UInt8 := [21, 5, 157, 255, 197, 9, 55, 7, 5, 54, 9, 4, 54, 10, 21, 10, 26, 162, 0, 88, 22, 7, 43]
abbrev dktX2_square_3 : List UInt8 := dkwX2_square_3 ++ dktX2_square_4
def dkwX2_square_2 : List UInt8 := [16, 33, 125, 136, 128, 79, 44, 132, 6, 255, 21, 6, 22, 9, 4, 125, 136, 79, 22, 9, 136, 54, 4]
abbrev dktX2_square_2 : List UInt8 := dkwX2_square_2 ++ dktX2_square_3
def dkwX2_square_1 : List UInt8 := [127, 55, 7, 22, 7, 22, 7, 105, 55, 9, 44, 132, 6, 255, 21, 6, 21, 4, 16, 31, 120, 22, 9]
abbrev dktX2_square_1 : List UInt8 := dkwX2_square_1 ++ dktX2_square_2
def dkwX2_square_0 : List UInt8 := [26, 4, 120, 62, 3, 54, 4, 26, 54, 5, 29, 54, 6, 43, 132, 5, 255, 21, 5, 46, 133, 20, 0, 9]
abbrev dktX2_square_0 : List UInt8 := dkwX2_square_0 ++ dktX2_square_1
theorem dksX2_square_0 : cX2_square.data.toList.drop 0 = dktX2_square_0 := by decide +kernel
theorem dksX2_square_1 : cX2_square.data.toList.drop 24 = dktX2_square_1 := dk_seg dksX2_square_0 24 rfl rfl
theorem dksX2_square_2 : cX2_square.data.toList.drop 47 = dktX2_square_2 := dk_seg dksX2_square_1 23 rfl rfl
theorem dksX2_square_3 : cX2_square.data.toList.drop 70 = dktX2_square_3 := dk_seg dksX2_square_2 23 rfl rfl
theorem dksX2_square_4 : cX2_square.data.toList.drop 93 = dktX2_square_4 := dk_seg dksX2_square_3 23 rfl rfl
theorem dksX2_square_5 : cX2_square.data.toList.drop 117 = dktX2_square_5 := dk_seg dksX2_square_4 24 rfl rfl
theorem dksX2_square_6 : cX2_square.data.toList.drop 141 = dktX2_square_6 := dk_seg dksX2_square_5 24 rfl rfl
theorem dksX2_square_7 : cX2_square.data.toList.drop 164 = dktX2_square_7 := dk_seg dksX2_square_6 23 rfl rfl
theorem dX2_square_0 : decode cX2_square 0 = .ok (.iload_n 0, 1) := dk_26 (dk_at dksX2_square_0 0 rfl rfl)
theorem dX2_square_1 : decode cX2_square 1 = .ok (.iconst 1, 1) := dk_4 (dk_at dksX2_square_0 1 rfl rfl)
theorem dX2_square_2 : decode cX2_square 2 = .ok (.ishl, 1) := dk_120 (dk_at dksX2_square_0 2 rfl rfl)
theorem dX2_square_3 : decode cX2_square 3 = .ok (.istore_n 3, 1) := dk_62 (dk_at dksX2_square_0 3 rfl rfl)
theorem dX2_square_4 : decode cX2_square 4 = .ok (.iconst 0, 1) := dk_3 (dk_at dksX2_square_0 4 rfl rfl)
theorem dX2_square_5 : decode cX2_square 5 = .ok (.istore 4, 2) := dk_54 4 (dk_at dksX2_square_0 5 rfl rfl)
theorem dX2_square_7 : decode cX2_square 7 = .ok (.iload_n 0, 1) := dk_26 (dk_at dksX2_square_0 7 rfl rfl)
theorem dX2_square_8 : decode cX2_square 8 = .ok (.istore 5, 2) := dk_54 5 (dk_at dksX2_square_0 8 rfl rfl)
theorem dX2_square_10 : decode cX2_square 10 = .ok (.iload_n 3, 1) := dk_29 (dk_at dksX2_square_0 10 rfl rfl)
theorem dX2_square_11 : decode cX2_square 11 = .ok (.istore 6, 2) := dk_54 6 (dk_at dksX2_square_0 11 rfl rfl)
theorem dX2_square_13 : decode cX2_square 13 = .ok (.aload_n 1, 1) := dk_43 (dk_at dksX2_square_0 13 rfl rfl)
theorem dX2_square_14 : decode cX2_square 14 = .ok (.iinc 5 (-1), 3) := dk_132 5 255 (dk_at dksX2_square_0 14 rfl rfl)
theorem dX2_square_17 : decode cX2_square 17 = .ok (.iload 5, 2) := dk_21 5 (dk_at dksX2_square_0 17 rfl rfl)
theorem dX2_square_19 : decode cX2_square 19 = .ok (.iaload, 1) := dk_46 (dk_at dksX2_square_0 19 rfl rfl)
theorem dX2_square_20 : decode cX2_square 20 = .ok (.i2l, 1) := dk_133 (dk_at dksX2_square_0 20 rfl rfl)
theorem dX2_square_21 : decode cX2_square 21 = .ok (.ldc2_w 9, 3) := dk_20 0 9 (dk_at dksX2_square_0 21 rfl rfl)
theorem dX2_square_24 : decode cX2_square 24 = .ok (.land, 1) := dk_127 (dk_at dksX2_square_1 0 rfl rfl)
theorem dX2_square_25 : decode cX2_square 25 = .ok (.lstore 7, 2) := dk_55 7 (dk_at dksX2_square_1 1 rfl rfl)
theorem dX2_square_27 : decode cX2_square 27 = .ok (.lload 7, 2) := dk_22 7 (dk_at dksX2_square_1 3 rfl rfl)
theorem dX2_square_29 : decode cX2_square 29 = .ok (.lload 7, 2) := dk_22 7 (dk_at dksX2_square_1 5 rfl rfl)
theorem dX2_square_31 : decode cX2_square 31 = .ok (.lmul, 1) := dk_105 (dk_at dksX2_square_1 7 rfl rfl)
theorem dX2_square_32 : decode cX2_square 32 = .ok (.lstore 9, 2) := dk_55 9 (dk_at dksX2_square_1 8 rfl rfl)
theorem dX2_square_34 : decode cX2_square 34 = .ok (.aload_n 2, 1) := dk_44 (dk_at dksX2_square_1 10 rfl rfl)
theorem dX2_square_35 : decode cX2_square 35 = .ok (.iinc 6 (-1), 3) := dk_132 6 255 (dk_at dksX2_square_1 11 rfl rfl)
theorem dX2_square_38 : decode cX2_square 38 = .ok (.iload 6, 2) := dk_21 6 (dk_at dksX2_square_1 14 rfl rfl)
theorem dX2_square_40 : decode cX2_square 40 = .ok (.iload 4, 2) := dk_21 4 (dk_at dksX2_square_1 16 rfl rfl)
theorem dX2_square_42 : decode cX2_square 42 = .ok (.bipush 31, 2) := dk_16 31 (dk_at dksX2_square_1 18 rfl rfl)
theorem dX2_square_44 : decode cX2_square 44 = .ok (.ishl, 1) := dk_120 (dk_at dksX2_square_1 20 rfl rfl)
theorem dX2_square_45 : decode cX2_square 45 = .ok (.lload 9, 2) := dk_22 9 (dk_at dksX2_square_1 21 rfl rfl)
theorem dX2_square_47 : decode cX2_square 47 = .ok (.bipush 33, 2) := dk_16 33 (dk_at dksX2_square_2 0 rfl rfl)
theorem dX2_square_49 : decode cX2_square 49 = .ok (.lushr, 1) := dk_125 (dk_at dksX2_square_2 2 rfl rfl)
theorem dX2_square_50 : decode cX2_square 50 = .ok (.l2i, 1) := dk_136 (dk_at dksX2_square_2 3 rfl rfl)
theorem dX2_square_51 : decode cX2_square 51 = .ok (.ior, 1) := dk_128 (dk_at dksX2_square_2 4 rfl rfl)
theorem dX2_square_52 : decode cX2_square 52 = .ok (.iastore, 1) := dk_79 (dk_at dksX2_square_2 5 rfl rfl)
theorem dX2_square_53 : decode cX2_square 53 = .ok (.aload_n 2, 1) := dk_44 (dk_at dksX2_square_2 6 rfl rfl)
theorem dX2_square_54 : decode cX2_square 54 = .ok (.iinc 6 (-1), 3) := dk_132 6 255 (dk_at dksX2_square_2 7 rfl rfl)
theorem dX2_square_57 : decode cX2_square 57 = .ok (.iload 6, 2) := dk_21 6 (dk_at dksX2_square_2 10 rfl rfl)
theorem dX2_square_59 : decode cX2_square 59 = .ok (.lload 9, 2) := dk_22 9 (dk_at dksX2_square_2 12 rfl rfl)
theorem dX2_square_61 : decode cX2_square 61 = .ok (.iconst 1, 1) := dk_4 (dk_at dksX2_square_2 14 rfl rfl)
theorem dX2_square_62 : decode cX2_square 62 = .ok (.lushr, 1) := dk_125 (dk_at dksX2_square_2 15 rfl rfl)
theorem dX2_square_63 : decode cX2_square 63 = .ok (.l2i, 1) := dk_136 (dk_at dksX2_square_2 16 rfl rfl)
theorem dX2_square_64 : decode cX2_square 64 = .ok (.iastore, 1) := dk_79 (dk_at dksX2_square_2 17 rfl rfl)
theorem dX2_square_65 : decode cX2_square 65 = .ok (.lload 9, 2) := dk_22 9 (dk_at dksX2_square_2 18 rfl rfl)
theorem dX2_square_67 : decode cX2_square 67 = .ok (.l2i, 1) := dk_136 (dk_at dksX2_square_2 20 rfl rfl)
theorem dX2_square_68 : decode cX2_square 68 = .ok (.istore 4, 2) := dk_54 4 (dk_at dksX2_square_2 21 rfl rfl)
theorem dX2_square_70 : decode cX2_square 70 = .ok (.iload 5, 2) := dk_21 5 (dk_at dksX2_square_3 0 rfl rfl)
theorem dX2_square_72 : decode cX2_square 72 = .ok (.ifCond .gt (-59), 3) := dk_157 255 197 (dk_at dksX2_square_3 2 rfl rfl)
theorem dX2_square_75 : decode cX2_square 75 = .ok (.lconst 0, 1) := dk_9 (dk_at dksX2_square_3 5 rfl rfl)
theorem dX2_square_76 : decode cX2_square 76 = .ok (.lstore 7, 2) := dk_55 7 (dk_at dksX2_square_3 6 rfl rfl)
theorem dX2_square_78 : decode cX2_square 78 = .ok (.iconst 2, 1) := dk_5 (dk_at dksX2_square_3 8 rfl rfl)
theorem dX2_square_79 : decode cX2_square 79 = .ok (.istore 9, 2) := dk_54 9 (dk_at dksX2_square_3 9 rfl rfl)
theorem dX2_square_81 : decode cX2_square 81 = .ok (.iconst 1, 1) := dk_4 (dk_at dksX2_square_3 11 rfl rfl)
theorem dX2_square_82 : decode cX2_square 82 = .ok (.istore 10, 2) := dk_54 10 (dk_at dksX2_square_3 12 rfl rfl)
theorem dX2_square_84 : decode cX2_square 84 = .ok (.iload 10, 2) := dk_21 10 (dk_at dksX2_square_3 14 rfl rfl)
theorem dX2_square_86 : decode cX2_square 86 = .ok (.iload_n 0, 1) := dk_26 (dk_at dksX2_square_3 16 rfl rfl)
theorem dX2_square_87 : decode cX2_square 87 = .ok (.if_icmp .ge 88, 3) := dk_162 0 88 (dk_at dksX2_square_3 17 rfl rfl)
theorem dX2_square_90 : decode cX2_square 90 = .ok (.lload 7, 2) := dk_22 7 (dk_at dksX2_square_3 20 rfl rfl)
theorem dX2_square_92 : decode cX2_square 92 = .ok (.aload_n 1, 1) := dk_43 (dk_at dksX2_square_3 22 rfl rfl)
theorem dX2_square_93 : decode cX2_square 93 = .ok (.iload 10, 2) := dk_21 10 (dk_at dksX2_square_4 0 rfl rfl)
theorem dX2_square_95 : decode cX2_square 95 = .ok (.aload_n 2, 1) := dk_44 (dk_at dksX2_square_4 2 rfl rfl)
theorem dX2_square_96 : decode cX2_square 96 = .ok (.invokestatic 22, 3) := dk_184 0 22 (dk_at dksX2_square_4 3 rfl rfl)
theorem dX2_square_99 : decode cX2_square 99 = .ok (.i2l, 1) := dk_133 (dk_at dksX2_square_4 6 rfl rfl)
theorem dX2_square_100 : decode cX2_square 100 = .ok (.ldc2_w 9, 3) := dk_20 0 9 (dk_at dksX2_square_4 7 rfl rfl)
theorem dX2_square_103 : decode cX2_square 103 = .ok (.land, 1) := dk_127 (dk_at dksX2_square_4 10 rfl rfl)
theorem dX2_square_104 : decode cX2_square 104 = .ok (.ladd, 1) := dk_97 (dk_at dksX2_square_4 11 rfl rfl)
theorem dX2_square_105 : decode cX2_square 105 = .ok (.lstore 7, 2) := dk_55 7 (dk_at dksX2_square_4 12 rfl rfl)
theorem dX2_square_107 : decode cX2_square 107 = .ok (.lload 7, 2) := dk_22 7 (dk_at dksX2_square_4 14 rfl rfl)
theorem dX2_square_109 : decode cX2_square 109 = .ok (.aload_n 2, 1) := dk_44 (dk_at dksX2_square_4 16 rfl rfl)
theorem dX2_square_110 : decode cX2_square 110 = .ok (.iload 9, 2) := dk_21 9 (dk_at dksX2_square_4 17 rfl rfl)
theorem dX2_square_112 : decode cX2_square 112 = .ok (.iaload, 1) := dk_46 (dk_at dksX2_square_4 19 rfl rfl)
theorem dX2_square_113 : decode cX2_square 113 = .ok (.i2l, 1) := dk_133 (dk_at dksX2_square_4 20 rfl rfl)
theorem dX2_square_114 : decode cX2_square 114 = .ok (.ldc2_w 9, 3) := dk_20 0 9 (dk_at dksX2_square_4 21 rfl rfl)
theorem dX2_square_117 : decode cX2_square 117 = .ok (.land, 1) := dk_127 (dk_at dksX2_square_5 0 rfl rfl)
theorem dX2_square_118 : decode cX2_square 118 = .ok (.ladd, 1) := dk_97 (dk_at dksX2_square_5 1 rfl rfl)
theorem dX2_square_119 : decode cX2_square 119 = .ok (.lstore 7, 2) := dk_55 7 (dk_at dksX2_square_5 2 rfl rfl)
theorem dX2_square_121 : decode cX2_square 121 = .ok (.aload_n 2, 1) := dk_44 (dk_at dksX2_square_5 4 rfl rfl)
theorem dX2_square_122 : decode cX2_square 122 = .ok (.iload 9, 2) := dk_21 9 (dk_at dksX2_square_5 5 rfl rfl)
theorem dX2_square_124 : decode cX2_square 124 = .ok (.iinc 9 1, 3) := dk_132 9 1 (dk_at dksX2_square_5 7 rfl rfl)
theorem dX2_square_127 : decode cX2_square 127 = .ok (.lload 7, 2) := dk_22 7 (dk_at dksX2_square_5 10 rfl rfl)
theorem dX2_square_129 : decode cX2_square 129 = .ok (.l2i, 1) := dk_136 (dk_at dksX2_square_5 12 rfl rfl)
theorem dX2_square_130 : decode cX2_square 130 = .ok (.iastore, 1) := dk_79 (dk_at dksX2_square_5 13 rfl rfl)
theorem dX2_square_131 : decode cX2_square 131 = .ok (.lload 7, 2) := dk_22 7 (dk_at dksX2_square_5 14 rfl rfl)
theorem dX2_square_133 : decode cX2_square 133 = .ok (.bipush 32, 2) := dk_16 32 (dk_at dksX2_square_5 16 rfl rfl)
theorem dX2_square_135 : decode cX2_square 135 = .ok (.lushr, 1) := dk_125 (dk_at dksX2_square_5 18 rfl rfl)
theorem dX2_square_136 : decode cX2_square 136 = .ok (.lstore 7, 2) := dk_55 7 (dk_at dksX2_square_5 19 rfl rfl)
theorem dX2_square_138 : decode cX2_square 138 = .ok (.lload 7, 2) := dk_22 7 (dk_at dksX2_square_5 21 rfl rfl)
theorem dX2_square_140 : decode cX2_square 140 = .ok (.aload_n 2, 1) := dk_44 (dk_at dksX2_square_5 23 rfl rfl)
theorem dX2_square_141 : decode cX2_square 141 = .ok (.iload 9, 2) := dk_21 9 (dk_at dksX2_square_6 0 rfl rfl)
theorem dX2_square_143 : decode cX2_square 143 = .ok (.iaload, 1) := dk_46 (dk_at dksX2_square_6 2 rfl rfl)
theorem dX2_square_144 : decode cX2_square 144 = .ok (.i2l, 1) := dk_133 (dk_at dksX2_square_6 3 rfl rfl)
theorem dX2_square_145 : decode cX2_square 145 = .ok (.ldc2_w 9, 3) := dk_20 0 9 (dk_at dksX2_square_6 4 rfl rfl)
theorem dX2_square_148 : decode cX2_square 148 = .ok (.land, 1) := dk_127 (dk_at dksX2_square_6 7 rfl rfl)
theorem dX2_square_149 : decode cX2_square 149 = .ok (.ladd, 1) := dk_97 (dk_at dksX2_square_6 8 rfl rfl)
theorem dX2_square_150 : decode cX2_square 150 = .ok (.lstore 7, 2) := dk_55 7 (dk_at dksX2_square_6 9 rfl rfl)
theorem dX2_square_152 : decode cX2_square 152 = .ok (.aload_n 2, 1) := dk_44 (dk_at dksX2_square_6 11 rfl rfl)
theorem dX2_square_153 : decode cX2_square 153 = .ok (.iload 9, 2) := dk_21 9 (dk_at dksX2_square_6 12 rfl rfl)
theorem dX2_square_155 : decode cX2_square 155 = .ok (.iinc 9 1, 3) := dk_132 9 1 (dk_at dksX2_square_6 14 rfl rfl)
theorem dX2_square_158 : decode cX2_square 158 = .ok (.lload 7, 2) := dk_22 7 (dk_at dksX2_square_6 17 rfl rfl)
theorem dX2_square_160 : decode cX2_square 160 = .ok (.l2i, 1) := dk_136 (dk_at dksX2_square_6 19 rfl rfl)
theorem dX2_square_161 : decode cX2_square 161 = .ok (.iastore, 1) := dk_79 (dk_at dksX2_square_6 20 rfl rfl)
theorem dX2_square_162 : decode cX2_square 162 = .ok (.lload 7, 2) := dk_22 7 (dk_at dksX2_square_6 21 rfl rfl)
theorem dX2_square_164 : decode cX2_square 164 = .ok (.bipush 32, 2) := dk_16 32 (dk_at dksX2_square_7 0 rfl rfl)
theorem dX2_square_166 : decode cX2_square 166 = .ok (.lushr, 1) := dk_125 (dk_at dksX2_square_7 2 rfl rfl)
theorem dX2_square_167 : decode cX2_square 167 = .ok (.lstore 7, 2) := dk_55 7 (dk_at dksX2_square_7 3 rfl rfl)
theorem dX2_square_169 : decode cX2_square 169 = .ok (.iinc 10 1, 3) := dk_132 10 1 (dk_at dksX2_square_7 5 rfl rfl)
theorem dX2_square_172 : decode cX2_square 172 = .ok (.goto (-88), 3) := dk_167 255 168 (dk_at dksX2_square_7 8 rfl rfl)
theorem dX2_square_175 : decode cX2_square 175 = .ok (.iload_n 3, 1) := dk_29 (dk_at dksX2_square_7 11 rfl rfl)
theorem dX2_square_176 : decode cX2_square 176 = .ok (.aload_n 2, 1) := dk_44 (dk_at dksX2_square_7 12 rfl rfl)
theorem dX2_square_177 : decode cX2_square 177 = .ok (.aload_n 1, 1) := dk_43 (dk_at dksX2_square_7 13 rfl rfl)
theorem dX2_square_178 : decode cX2_square 178 = .ok (.iconst 0, 1) := dk_3 (dk_at dksX2_square_7 14 rfl rfl)
theorem dX2_square_179 : decode cX2_square 179 = .ok (.iaload, 1) := dk_46 (dk_at dksX2_square_7 15 rfl rfl)
theorem dX2_square_180 : decode cX2_square 180 = .ok (.bipush 31, 2) := dk_16 31 (dk_at dksX2_square_7 16 rfl rfl)
theorem dX2_square_182 : decode cX2_square 182 = .ok (.ishl, 1) := dk_120 (dk_at dksX2_square_7 18 rfl rfl)
theorem dX2_square_183 : decode cX2_square 183 = .ok (.invokestatic 26, 3) := dk_184 0 26 (dk_at dksX2_square_7 19 rfl rfl)
theorem dX2_square_186 : decode cX2_square 186 = .ok (.pop, 1) := dk_87 (dk_at dksX2_square_7 22 rfl rfl)
theorem dX2_square_187 : decode cX2_square 187 = .ok (.return_, 1) := dk_177 (dk_at dksX2_square_7 23 rfl rfl)
abbrev cX2_squareWordAddTo : ByteArray := prog_1_method_14_code
def yX2_squareWordAddTo : MethodName := ⟨RX2, "squareWordAddTo", "([II[I)I"⟩
def dkwX2_squareWordAddTo_2 : List UInt8 := [33, 136, 79, 33, 16, 32, 125, 66, 132, 7, 1, 21, 7, 27, 161, 255, 210, 33, 136, 172]
abbrev dktX2_squareWordAddTo_2 : List UInt8 := dkwX2_squareWordAddTo_2 ++ []
def dkwX2_squareWordAddTo_1 : List UInt8 := [20, 0, 9, 127, 105, 44, 27, 21, 7, 96, 46, 133, 20, 0, 9, 127, 97, 97, 66, 44, 27, 21, 7, 96]
abbrev dktX2_squareWordAddTo_1 : List UInt8 := dkwX2_squareWordAddTo_1 ++ dktX2_squareWordAddTo_2
def dkwX2_squareWordAddTo_0 : List UInt8 := [9, 66, 42, 27, 46, 133, 20, 0, 9, 127, 55, 5, 3, 54, 7, 33, 22, 5, 42, 21, 7, 46, 133]
abbrev dktX2_squareWordAddTo_0 : List UInt8 := dkwX2_squareWordAddTo_0 ++ dktX2_squareWordAddTo_1
theorem dksX2_squareWordAddTo_0 : cX2_squareWordAddTo.data.toList.drop 0 = dktX2_squareWordAddTo_0 := by decide +kernel
theorem dksX2_squareWordAddTo_1 : cX2_squareWordAddTo.data.toList.drop 23 = dktX2_squareWordAddTo_1 := dk_seg dksX2_squareWordAddTo_0 23 rfl rfl
theorem dksX2_squareWordAddTo_2 : cX2_squareWordAddTo.data.toList.drop 47 = dktX2_squareWordAddTo_2 := dk_seg dksX2_squareWordAddTo_1 24 rfl rfl
theorem dX2_squareWordAddTo_0 : decode cX2_squareWordAddTo 0 = .ok (.lconst 0, 1) := dk_9 (dk_at dksX2_squareWordAddTo_0 0 rfl rfl)
theorem dX2_squareWordAddTo_1 : decode cX2_squareWordAddTo 1 = .ok (.lstore_n 3, 1) := dk_66 (dk_at dksX2_squareWordAddTo_0 1 rfl rfl)
theorem dX2_squareWordAddTo_2 : decode cX2_squareWordAddTo 2 = .ok (.aload_n 0, 1) := dk_42 (dk_at dksX2_squareWordAddTo_0 2 rfl rfl)
theorem dX2_squareWordAddTo_3 : decode cX2_squareWordAddTo 3 = .ok (.iload_n 1, 1) := dk_27 (dk_at dksX2_squareWordAddTo_0 3 rfl rfl)
theorem dX2_squareWordAddTo_4 : decode cX2_squareWordAddTo 4 = .ok (.iaload, 1) := dk_46 (dk_at dksX2_squareWordAddTo_0 4 rfl rfl)
theorem dX2_squareWordAddTo_5 : decode cX2_squareWordAddTo 5 = .ok (.i2l, 1) := dk_133 (dk_at dksX2_squareWordAddTo_0 5 rfl rfl)
theorem dX2_squareWordAddTo_6 : decode cX2_squareWordAddTo 6 = .ok (.ldc2_w 9, 3) := dk_20 0 9 (dk_at dksX2_squareWordAddTo_0 6 rfl rfl)
theorem dX2_squareWordAddTo_9 : decode cX2_squareWordAddTo 9 = .ok (.land, 1) := dk_127 (dk_at dksX2_squareWordAddTo_0 9 rfl rfl)
theorem dX2_squareWordAddTo_10 : decode cX2_squareWordAddTo 10 = .ok (.lstore 5, 2) := dk_55 5 (dk_at dksX2_squareWordAddTo_0 10 rfl rfl)
theorem dX2_squareWordAddTo_12 : decode cX2_squareWordAddTo 12 = .ok (.iconst 0, 1) := dk_3 (dk_at dksX2_squareWordAddTo_0 12 rfl rfl)
theorem dX2_squareWordAddTo_13 : decode cX2_squareWordAddTo 13 = .ok (.istore 7, 2) := dk_54 7 (dk_at dksX2_squareWordAddTo_0 13 rfl rfl)
theorem dX2_squareWordAddTo_15 : decode cX2_squareWordAddTo 15 = .ok (.lload_n 3, 1) := dk_33 (dk_at dksX2_squareWordAddTo_0 15 rfl rfl)
theorem dX2_squareWordAddTo_16 : decode cX2_squareWordAddTo 16 = .ok (.lload 5, 2) := dk_22 5 (dk_at dksX2_squareWordAddTo_0 16 rfl rfl)
theorem dX2_squareWordAddTo_18 : decode cX2_squareWordAddTo 18 = .ok (.aload_n 0, 1) := dk_42 (dk_at dksX2_squareWordAddTo_0 18 rfl rfl)
theorem dX2_squareWordAddTo_19 : decode cX2_squareWordAddTo 19 = .ok (.iload 7, 2) := dk_21 7 (dk_at dksX2_squareWordAddTo_0 19 rfl rfl)
theorem dX2_squareWordAddTo_21 : decode cX2_squareWordAddTo 21 = .ok (.iaload, 1) := dk_46 (dk_at dksX2_squareWordAddTo_0 21 rfl rfl)
theorem dX2_squareWordAddTo_22 : decode cX2_squareWordAddTo 22 = .ok (.i2l, 1) := dk_133 (dk_at dksX2_squareWordAddTo_0 22 rfl rfl)
theorem dX2_squareWordAddTo_23 : decode cX2_squareWordAddTo 23 = .ok (.ldc2_w 9, 3) := dk_20 0 9 (dk_at dksX2_squareWordAddTo_1 0 rfl rfl)
theorem dX2_squareWordAddTo_26 : decode cX2_squareWordAddTo 26 = .ok (.land, 1) := dk_127 (dk_at dksX2_squareWordAddTo_1 3 rfl rfl)
theorem dX2_squareWordAddTo_27 : decode cX2_squareWordAddTo 27 = .ok (.lmul, 1) := dk_105 (dk_at dksX2_squareWordAddTo_1 4 rfl rfl)
theorem dX2_squareWordAddTo_28 : decode cX2_squareWordAddTo 28 = .ok (.aload_n 2, 1) := dk_44 (dk_at dksX2_squareWordAddTo_1 5 rfl rfl)
theorem dX2_squareWordAddTo_29 : decode cX2_squareWordAddTo 29 = .ok (.iload_n 1, 1) := dk_27 (dk_at dksX2_squareWordAddTo_1 6 rfl rfl)
theorem dX2_squareWordAddTo_30 : decode cX2_squareWordAddTo 30 = .ok (.iload 7, 2) := dk_21 7 (dk_at dksX2_squareWordAddTo_1 7 rfl rfl)
theorem dX2_squareWordAddTo_32 : decode cX2_squareWordAddTo 32 = .ok (.iadd, 1) := dk_96 (dk_at dksX2_squareWordAddTo_1 9 rfl rfl)
theorem dX2_squareWordAddTo_33 : decode cX2_squareWordAddTo 33 = .ok (.iaload, 1) := dk_46 (dk_at dksX2_squareWordAddTo_1 10 rfl rfl)
theorem dX2_squareWordAddTo_34 : decode cX2_squareWordAddTo 34 = .ok (.i2l, 1) := dk_133 (dk_at dksX2_squareWordAddTo_1 11 rfl rfl)
theorem dX2_squareWordAddTo_35 : decode cX2_squareWordAddTo 35 = .ok (.ldc2_w 9, 3) := dk_20 0 9 (dk_at dksX2_squareWordAddTo_1 12 rfl rfl)
theorem dX2_squareWordAddTo_38 : decode cX2_squareWordAddTo 38 = .ok (.land, 1) := dk_127 (dk_at dksX2_squareWordAddTo_1 15 rfl rfl)
theorem dX2_squareWordAddTo_39 : decode cX2_squareWordAddTo 39 = .ok (.ladd, 1) := dk_97 (dk_at dksX2_squareWordAddTo_1 16 rfl rfl)
theorem dX2_squareWordAddTo_40 : decode cX2_squareWordAddTo 40 = .ok (.ladd, 1) := dk_97 (dk_at dksX2_squareWordAddTo_1 17 rfl rfl)
theorem dX2_squareWordAddTo_41 : decode cX2_squareWordAddTo 41 = .ok (.lstore_n 3, 1) := dk_66 (dk_at dksX2_squareWordAddTo_1 18 rfl rfl)
theorem dX2_squareWordAddTo_42 : decode cX2_squareWordAddTo 42 = .ok (.aload_n 2, 1) := dk_44 (dk_at dksX2_squareWordAddTo_1 19 rfl rfl)
theorem dX2_squareWordAddTo_43 : decode cX2_squareWordAddTo 43 = .ok (.iload_n 1, 1) := dk_27 (dk_at dksX2_squareWordAddTo_1 20 rfl rfl)
theorem dX2_squareWordAddTo_44 : decode cX2_squareWordAddTo 44 = .ok (.iload 7, 2) := dk_21 7 (dk_at dksX2_squareWordAddTo_1 21 rfl rfl)
theorem dX2_squareWordAddTo_46 : decode cX2_squareWordAddTo 46 = .ok (.iadd, 1) := dk_96 (dk_at dksX2_squareWordAddTo_1 23 rfl rfl)
theorem dX2_squareWordAddTo_47 : decode cX2_squareWordAddTo 47 = .ok (.lload_n 3, 1) := dk_33 (dk_at dksX2_squareWordAddTo_2 0 rfl rfl)
theorem dX2_squareWordAddTo_48 : decode cX2_squareWordAddTo 48 = .ok (.l2i, 1) := dk_136 (dk_at dksX2_squareWordAddTo_2 1 rfl rfl)
theorem dX2_squareWordAddTo_49 : decode cX2_squareWordAddTo 49 = .ok (.iastore, 1) := dk_79 (dk_at dksX2_squareWordAddTo_2 2 rfl rfl)
theorem dX2_squareWordAddTo_50 : decode cX2_squareWordAddTo 50 = .ok (.lload_n 3, 1) := dk_33 (dk_at dksX2_squareWordAddTo_2 3 rfl rfl)
theorem dX2_squareWordAddTo_51 : decode cX2_squareWordAddTo 51 = .ok (.bipush 32, 2) := dk_16 32 (dk_at dksX2_squareWordAddTo_2 4 rfl rfl)
theorem dX2_squareWordAddTo_53 : decode cX2_squareWordAddTo 53 = .ok (.lushr, 1) := dk_125 (dk_at dksX2_squareWordAddTo_2 6 rfl rfl)
theorem dX2_squareWordAddTo_54 : decode cX2_squareWordAddTo 54 = .ok (.lstore_n 3, 1) := dk_66 (dk_at dksX2_squareWordAddTo_2 7 rfl rfl)
theorem dX2_squareWordAddTo_55 : decode cX2_squareWordAddTo 55 = .ok (.iinc 7 1, 3) := dk_132 7 1 (dk_at dksX2_squareWordAddTo_2 8 rfl rfl)
theorem dX2_squareWordAddTo_58 : decode cX2_squareWordAddTo 58 = .ok (.iload 7, 2) := dk_21 7 (dk_at dksX2_squareWordAddTo_2 11 rfl rfl)
theorem dX2_squareWordAddTo_60 : decode cX2_squareWordAddTo 60 = .ok (.iload_n 1, 1) := dk_27 (dk_at dksX2_squareWordAddTo_2 13 rfl rfl)
theorem dX2_squareWordAddTo_61 : decode cX2_squareWordAddTo 61 = .ok (.if_icmp .lt (-46), 3) := dk_161 255 210 (dk_at dksX2_squareWordAddTo_2 14 rfl rfl)
theorem dX2_squareWordAddTo_64 : decode cX2_squareWordAddTo 64 = .ok (.lload_n 3, 1) := dk_33 (dk_at dksX2_squareWordAddTo_2 17 rfl rfl)
theorem dX2_squareWordAddTo_65 : decode cX2_squareWordAddTo 65 = .ok (.l2i, 1) := dk_136 (dk_at dksX2_squareWordAddTo_2 18 rfl rfl)
theorem dX2_squareWordAddTo_66 : decode cX2_squareWordAddTo 66 = .ok (.ireturn, 1) := dk_172 (dk_at dksX2_squareWordAddTo_2 19 rfl rfl)
abbrev cX2_shiftUpBit : ByteArray := prog_1_method_11_code
def yX2_shiftUpBit : MethodName := ⟨RX2, "shiftUpBit", "(I[II)I"⟩
def dkwX2_shiftUpBit_1 : List UInt8 := [21, 4, 61, 132, 3, 1, 167, 255, 228, 28, 16, 31, 124, 172]
abbrev dktX2_shiftUpBit_1 : List UInt8 := dkwX2_shiftUpBit_1 ++ []
def dkwX2_shiftUpBit_0 : List UInt8 := [3, 62, 29, 26, 162, 0, 29, 43, 29, 46, 54, 4, 43, 29, 21, 4, 4, 120, 28, 16, 31, 124, 128, 79]
abbrev dktX2_shiftUpBit_0 : List UInt8 := dkwX2_shiftUpBit_0 ++ dktX2_shiftUpBit_1
theorem dksX2_shiftUpBit_0 : cX2_shiftUpBit.data.toList.drop 0 = dktX2_shiftUpBit_0 := by decide +kernel
theorem dksX2_shiftUpBit_1 : cX2_shiftUpBit.data.toList.drop 24 = dktX2_shiftUpBit_1 := dk_seg dksX2_shiftUpBit_0 24 rfl rfl
theorem dX2_shiftUpBit_0 : decode cX2_shiftUpBit 0 = .ok (.iconst 0, 1) := dk_3 (dk_at dksX2_shiftUpBit_0 0 rfl rfl)
theorem dX2_shiftUpBit_1 : decode cX2_shiftUpBit 1 = .ok (.istore_n 3, 1) := dk_62 (dk_at dksX2_shiftUpBit_0 1 rfl rfl)
theorem dX2_shiftUpBit_2 : decode cX2_shiftUpBit 2 = .ok (.iload_n 3, 1) := dk_29 (dk_at dksX2_shiftUpBit_0 2 rfl rfl)
theorem dX2_shiftUpBit_3 : decode cX2_shiftUpBit 3 = .ok (.iload_n 0, 1) := dk_26 (dk_at dksX2_shiftUpBit_0 3 rfl rfl)
theorem dX2_shiftUpBit_4 : decode cX2_shiftUpBit 4 = .ok (.if_icmp .ge 29, 3) := dk_162 0 29 (dk_at dksX2_shiftUpBit_0 4 rfl rfl)
theorem dX2_shiftUpBit_7 : decode cX2_shiftUpBit 7 = .ok (.aload_n 1, 1) := dk_43 (dk_at dksX2_shiftUpBit_0 7 rfl rfl)
theorem dX2_shiftUpBit_8 : decode cX2_shiftUpBit 8 = .ok (.iload_n 3, 1) := dk_29 (dk_at dksX2_shiftUpBit_0 8 rfl rfl)
theorem dX2_shiftUpBit_9 : decode cX2_shiftUpBit 9 = .ok (.iaload, 1) := dk_46 (dk_at dksX2_shiftUpBit_0 9 rfl rfl)
theorem dX2_shiftUpBit_10 : decode cX2_shiftUpBit 10 = .ok (.istore 4, 2) := dk_54 4 (dk_at dksX2_shiftUpBit_0 10 rfl rfl)
theorem dX2_shiftUpBit_12 : decode cX2_shiftUpBit 12 = .ok (.aload_n 1, 1) := dk_43 (dk_at dksX2_shiftUpBit_0 12 rfl rfl)
theorem dX2_shiftUpBit_13 : decode cX2_shiftUpBit 13 = .ok (.iload_n 3, 1) := dk_29 (dk_at dksX2_shiftUpBit_0 13 rfl rfl)
theorem dX2_shiftUpBit_14 : decode cX2_shiftUpBit 14 = .ok (.iload 4, 2) := dk_21 4 (dk_at dksX2_shiftUpBit_0 14 rfl rfl)
theorem dX2_shiftUpBit_16 : decode cX2_shiftUpBit 16 = .ok (.iconst 1, 1) := dk_4 (dk_at dksX2_shiftUpBit_0 16 rfl rfl)
theorem dX2_shiftUpBit_17 : decode cX2_shiftUpBit 17 = .ok (.ishl, 1) := dk_120 (dk_at dksX2_shiftUpBit_0 17 rfl rfl)
theorem dX2_shiftUpBit_18 : decode cX2_shiftUpBit 18 = .ok (.iload_n 2, 1) := dk_28 (dk_at dksX2_shiftUpBit_0 18 rfl rfl)
theorem dX2_shiftUpBit_19 : decode cX2_shiftUpBit 19 = .ok (.bipush 31, 2) := dk_16 31 (dk_at dksX2_shiftUpBit_0 19 rfl rfl)
theorem dX2_shiftUpBit_21 : decode cX2_shiftUpBit 21 = .ok (.iushr, 1) := dk_124 (dk_at dksX2_shiftUpBit_0 21 rfl rfl)
theorem dX2_shiftUpBit_22 : decode cX2_shiftUpBit 22 = .ok (.ior, 1) := dk_128 (dk_at dksX2_shiftUpBit_0 22 rfl rfl)
theorem dX2_shiftUpBit_23 : decode cX2_shiftUpBit 23 = .ok (.iastore, 1) := dk_79 (dk_at dksX2_shiftUpBit_0 23 rfl rfl)
theorem dX2_shiftUpBit_24 : decode cX2_shiftUpBit 24 = .ok (.iload 4, 2) := dk_21 4 (dk_at dksX2_shiftUpBit_1 0 rfl rfl)
theorem dX2_shiftUpBit_26 : decode cX2_shiftUpBit 26 = .ok (.istore_n 2, 1) := dk_61 (dk_at dksX2_shiftUpBit_1 2 rfl rfl)
theorem dX2_shiftUpBit_27 : decode cX2_shiftUpBit 27 = .ok (.iinc 3 1, 3) := dk_132 3 1 (dk_at dksX2_shiftUpBit_1 3 rfl rfl)
theorem dX2_shiftUpBit_30 : decode cX2_shiftUpBit 30 = .ok (.goto (-28), 3) := dk_167 255 228 (dk_at dksX2_shiftUpBit_1 6 rfl rfl)
theorem dX2_shiftUpBit_33 : decode cX2_shiftUpBit 33 = .ok (.iload_n 2, 1) := dk_28 (dk_at dksX2_shiftUpBit_1 9 rfl rfl)
theorem dX2_shiftUpBit_34 : decode cX2_shiftUpBit 34 = .ok (.bipush 31, 2) := dk_16 31 (dk_at dksX2_shiftUpBit_1 10 rfl rfl)
theorem dX2_shiftUpBit_36 : decode cX2_shiftUpBit 36 = .ok (.iushr, 1) := dk_124 (dk_at dksX2_shiftUpBit_1 12 rfl rfl)
theorem dX2_shiftUpBit_37 : decode cX2_shiftUpBit 37 = .ok (.ireturn, 1) := dk_172 (dk_at dksX2_shiftUpBit_1 13 rfl rfl)
abbrev cX2_mulAddTo : ByteArray := prog_1_method_7_code
def yX2_mulAddTo : MethodName := ⟨RX2, "mulAddTo", "(I[I[I[I)I"⟩
def dkwX2_mulAddTo_3 : List UInt8 := [167, 255, 192, 22, 4, 136, 172]
abbrev dktX2_mulAddTo_3 : List UInt8 := dkwX2_mulAddTo_3 ++ []
def dkwX2_mulAddTo_2 : List UInt8 := [97, 55, 4, 45, 21, 6, 26, 96, 22, 4, 136, 79, 22, 4, 16, 32, 125, 55, 4, 132, 6, 1]
abbrev dktX2_mulAddTo_2 : List UInt8 := dkwX2_mulAddTo_2 ++ dktX2_mulAddTo_3
def dkwX2_mulAddTo_1 : List UInt8 := [184, 0, 18, 133, 20, 0, 9, 127, 97, 55, 4, 22, 4, 45, 21, 6, 26, 96, 46, 133, 20, 0, 9, 127]
abbrev dktX2_mulAddTo_1 : List UInt8 := dkwX2_mulAddTo_1 ++ dktX2_mulAddTo_2
def dkwX2_mulAddTo_0 : List UInt8 := [9, 55, 4, 3, 54, 6, 21, 6, 26, 162, 0, 64, 22, 4, 26, 43, 21, 6, 46, 44, 3, 45, 21, 6]
abbrev dktX2_mulAddTo_0 : List UInt8 := dkwX2_mulAddTo_0 ++ dktX2_mulAddTo_1
theorem dksX2_mulAddTo_0 : cX2_mulAddTo.data.toList.drop 0 = dktX2_mulAddTo_0 := by decide +kernel
theorem dksX2_mulAddTo_1 : cX2_mulAddTo.data.toList.drop 24 = dktX2_mulAddTo_1 := dk_seg dksX2_mulAddTo_0 24 rfl rfl
theorem dksX2_mulAddTo_2 : cX2_mulAddTo.data.toList.drop 48 = dktX2_mulAddTo_2 := dk_seg dksX2_mulAddTo_1 24 rfl rfl
theorem dksX2_mulAddTo_3 : cX2_mulAddTo.data.toList.drop 70 = dktX2_mulAddTo_3 := dk_seg dksX2_mulAddTo_2 22 rfl rfl
theorem dX2_mulAddTo_0 : decode cX2_mulAddTo 0 = .ok (.lconst 0, 1) := dk_9 (dk_at dksX2_mulAddTo_0 0 rfl rfl)
theorem dX2_mulAddTo_1 : decode cX2_mulAddTo 1 = .ok (.lstore 4, 2) := dk_55 4 (dk_at dksX2_mulAddTo_0 1 rfl rfl)
theorem dX2_mulAddTo_3 : decode cX2_mulAddTo 3 = .ok (.iconst 0, 1) := dk_3 (dk_at dksX2_mulAddTo_0 3 rfl rfl)
theorem dX2_mulAddTo_4 : decode cX2_mulAddTo 4 = .ok (.istore 6, 2) := dk_54 6 (dk_at dksX2_mulAddTo_0 4 rfl rfl)
theorem dX2_mulAddTo_6 : decode cX2_mulAddTo 6 = .ok (.iload 6, 2) := dk_21 6 (dk_at dksX2_mulAddTo_0 6 rfl rfl)
theorem dX2_mulAddTo_8 : decode cX2_mulAddTo 8 = .ok (.iload_n 0, 1) := dk_26 (dk_at dksX2_mulAddTo_0 8 rfl rfl)
theorem dX2_mulAddTo_9 : decode cX2_mulAddTo 9 = .ok (.if_icmp .ge 64, 3) := dk_162 0 64 (dk_at dksX2_mulAddTo_0 9 rfl rfl)
theorem dX2_mulAddTo_12 : decode cX2_mulAddTo 12 = .ok (.lload 4, 2) := dk_22 4 (dk_at dksX2_mulAddTo_0 12 rfl rfl)
theorem dX2_mulAddTo_14 : decode cX2_mulAddTo 14 = .ok (.iload_n 0, 1) := dk_26 (dk_at dksX2_mulAddTo_0 14 rfl rfl)
theorem dX2_mulAddTo_15 : decode cX2_mulAddTo 15 = .ok (.aload_n 1, 1) := dk_43 (dk_at dksX2_mulAddTo_0 15 rfl rfl)
theorem dX2_mulAddTo_16 : decode cX2_mulAddTo 16 = .ok (.iload 6, 2) := dk_21 6 (dk_at dksX2_mulAddTo_0 16 rfl rfl)
theorem dX2_mulAddTo_18 : decode cX2_mulAddTo 18 = .ok (.iaload, 1) := dk_46 (dk_at dksX2_mulAddTo_0 18 rfl rfl)
theorem dX2_mulAddTo_19 : decode cX2_mulAddTo 19 = .ok (.aload_n 2, 1) := dk_44 (dk_at dksX2_mulAddTo_0 19 rfl rfl)
theorem dX2_mulAddTo_20 : decode cX2_mulAddTo 20 = .ok (.iconst 0, 1) := dk_3 (dk_at dksX2_mulAddTo_0 20 rfl rfl)
theorem dX2_mulAddTo_21 : decode cX2_mulAddTo 21 = .ok (.aload_n 3, 1) := dk_45 (dk_at dksX2_mulAddTo_0 21 rfl rfl)
theorem dX2_mulAddTo_22 : decode cX2_mulAddTo 22 = .ok (.iload 6, 2) := dk_21 6 (dk_at dksX2_mulAddTo_0 22 rfl rfl)
theorem dX2_mulAddTo_24 : decode cX2_mulAddTo 24 = .ok (.invokestatic 18, 3) := dk_184 0 18 (dk_at dksX2_mulAddTo_1 0 rfl rfl)
theorem dX2_mulAddTo_27 : decode cX2_mulAddTo 27 = .ok (.i2l, 1) := dk_133 (dk_at dksX2_mulAddTo_1 3 rfl rfl)
theorem dX2_mulAddTo_28 : decode cX2_mulAddTo 28 = .ok (.ldc2_w 9, 3) := dk_20 0 9 (dk_at dksX2_mulAddTo_1 4 rfl rfl)
theorem dX2_mulAddTo_31 : decode cX2_mulAddTo 31 = .ok (.land, 1) := dk_127 (dk_at dksX2_mulAddTo_1 7 rfl rfl)
theorem dX2_mulAddTo_32 : decode cX2_mulAddTo 32 = .ok (.ladd, 1) := dk_97 (dk_at dksX2_mulAddTo_1 8 rfl rfl)
theorem dX2_mulAddTo_33 : decode cX2_mulAddTo 33 = .ok (.lstore 4, 2) := dk_55 4 (dk_at dksX2_mulAddTo_1 9 rfl rfl)
theorem dX2_mulAddTo_35 : decode cX2_mulAddTo 35 = .ok (.lload 4, 2) := dk_22 4 (dk_at dksX2_mulAddTo_1 11 rfl rfl)
theorem dX2_mulAddTo_37 : decode cX2_mulAddTo 37 = .ok (.aload_n 3, 1) := dk_45 (dk_at dksX2_mulAddTo_1 13 rfl rfl)
theorem dX2_mulAddTo_38 : decode cX2_mulAddTo 38 = .ok (.iload 6, 2) := dk_21 6 (dk_at dksX2_mulAddTo_1 14 rfl rfl)
theorem dX2_mulAddTo_40 : decode cX2_mulAddTo 40 = .ok (.iload_n 0, 1) := dk_26 (dk_at dksX2_mulAddTo_1 16 rfl rfl)
theorem dX2_mulAddTo_41 : decode cX2_mulAddTo 41 = .ok (.iadd, 1) := dk_96 (dk_at dksX2_mulAddTo_1 17 rfl rfl)
theorem dX2_mulAddTo_42 : decode cX2_mulAddTo 42 = .ok (.iaload, 1) := dk_46 (dk_at dksX2_mulAddTo_1 18 rfl rfl)
theorem dX2_mulAddTo_43 : decode cX2_mulAddTo 43 = .ok (.i2l, 1) := dk_133 (dk_at dksX2_mulAddTo_1 19 rfl rfl)
theorem dX2_mulAddTo_44 : decode cX2_mulAddTo 44 = .ok (.ldc2_w 9, 3) := dk_20 0 9 (dk_at dksX2_mulAddTo_1 20 rfl rfl)
theorem dX2_mulAddTo_47 : decode cX2_mulAddTo 47 = .ok (.land, 1) := dk_127 (dk_at dksX2_mulAddTo_1 23 rfl rfl)
theorem dX2_mulAddTo_48 : decode cX2_mulAddTo 48 = .ok (.ladd, 1) := dk_97 (dk_at dksX2_mulAddTo_2 0 rfl rfl)
theorem dX2_mulAddTo_49 : decode cX2_mulAddTo 49 = .ok (.lstore 4, 2) := dk_55 4 (dk_at dksX2_mulAddTo_2 1 rfl rfl)
theorem dX2_mulAddTo_51 : decode cX2_mulAddTo 51 = .ok (.aload_n 3, 1) := dk_45 (dk_at dksX2_mulAddTo_2 3 rfl rfl)
theorem dX2_mulAddTo_52 : decode cX2_mulAddTo 52 = .ok (.iload 6, 2) := dk_21 6 (dk_at dksX2_mulAddTo_2 4 rfl rfl)
theorem dX2_mulAddTo_54 : decode cX2_mulAddTo 54 = .ok (.iload_n 0, 1) := dk_26 (dk_at dksX2_mulAddTo_2 6 rfl rfl)
theorem dX2_mulAddTo_55 : decode cX2_mulAddTo 55 = .ok (.iadd, 1) := dk_96 (dk_at dksX2_mulAddTo_2 7 rfl rfl)
theorem dX2_mulAddTo_56 : decode cX2_mulAddTo 56 = .ok (.lload 4, 2) := dk_22 4 (dk_at dksX2_mulAddTo_2 8 rfl rfl)
theorem dX2_mulAddTo_58 : decode cX2_mulAddTo 58 = .ok (.l2i, 1) := dk_136 (dk_at dksX2_mulAddTo_2 10 rfl rfl)
theorem dX2_mulAddTo_59 : decode cX2_mulAddTo 59 = .ok (.iastore, 1) := dk_79 (dk_at dksX2_mulAddTo_2 11 rfl rfl)
theorem dX2_mulAddTo_60 : decode cX2_mulAddTo 60 = .ok (.lload 4, 2) := dk_22 4 (dk_at dksX2_mulAddTo_2 12 rfl rfl)
theorem dX2_mulAddTo_62 : decode cX2_mulAddTo 62 = .ok (.bipush 32, 2) := dk_16 32 (dk_at dksX2_mulAddTo_2 14 rfl rfl)
theorem dX2_mulAddTo_64 : decode cX2_mulAddTo 64 = .ok (.lushr, 1) := dk_125 (dk_at dksX2_mulAddTo_2 16 rfl rfl)
theorem dX2_mulAddTo_65 : decode cX2_mulAddTo 65 = .ok (.lstore 4, 2) := dk_55 4 (dk_at dksX2_mulAddTo_2 17 rfl rfl)
theorem dX2_mulAddTo_67 : decode cX2_mulAddTo 67 = .ok (.iinc 6 1, 3) := dk_132 6 1 (dk_at dksX2_mulAddTo_2 19 rfl rfl)
theorem dX2_mulAddTo_70 : decode cX2_mulAddTo 70 = .ok (.goto (-64), 3) := dk_167 255 192 (dk_at dksX2_mulAddTo_3 0 rfl rfl)
theorem dX2_mulAddTo_73 : decode cX2_mulAddTo 73 = .ok (.lload 4, 2) := dk_22 4 (dk_at dksX2_mulAddTo_3 3 rfl rfl)
theorem dX2_mulAddTo_75 : decode cX2_mulAddTo 75 = .ok (.l2i, 1) := dk_136 (dk_at dksX2_mulAddTo_3 5 rfl rfl)
theorem dX2_mulAddTo_76 : decode cX2_mulAddTo 76 = .ok (.ireturn, 1) := dk_172 (dk_at dksX2_mulAddTo_3 6 rfl rfl)
abbrev cX2_shiftUpBits : ByteArray := prog_1_method_12_code
def yX2_shiftUpBits : MethodName := ⟨RX2, "shiftUpBits", "(I[III)I"⟩
def dkwX2_shiftUpBits_1 : List UInt8 := [116, 124, 128, 79, 21, 5, 62, 132, 4, 1, 167, 255, 225, 29, 28, 116, 124, 172]
abbrev dktX2_shiftUpBits_1 : List UInt8 := dkwX2_shiftUpBits_1 ++ []
def dkwX2_shiftUpBits_0 : List UInt8 := [3, 54, 4, 21, 4, 26, 162, 0, 31, 43, 21, 4, 46, 54, 5, 43, 21, 4, 21, 5, 28, 120, 29, 28]
abbrev dktX2_shiftUpBits_0 : List UInt8 := dkwX2_shiftUpBits_0 ++ dktX2_shiftUpBits_1
theorem dksX2_shiftUpBits_0 : cX2_shiftUpBits.data.toList.drop 0 = dktX2_shiftUpBits_0 := by decide +kernel
theorem dksX2_shiftUpBits_1 : cX2_shiftUpBits.data.toList.drop 24 = dktX2_shiftUpBits_1 := dk_seg dksX2_shiftUpBits_0 24 rfl rfl
theorem dX2_shiftUpBits_0 : decode cX2_shiftUpBits 0 = .ok (.iconst 0, 1) := dk_3 (dk_at dksX2_shiftUpBits_0 0 rfl rfl)
theorem dX2_shiftUpBits_1 : decode cX2_shiftUpBits 1 = .ok (.istore 4, 2) := dk_54 4 (dk_at dksX2_shiftUpBits_0 1 rfl rfl)
theorem dX2_shiftUpBits_3 : decode cX2_shiftUpBits 3 = .ok (.iload 4, 2) := dk_21 4 (dk_at dksX2_shiftUpBits_0 3 rfl rfl)
theorem dX2_shiftUpBits_5 : decode cX2_shiftUpBits 5 = .ok (.iload_n 0, 1) := dk_26 (dk_at dksX2_shiftUpBits_0 5 rfl rfl)
theorem dX2_shiftUpBits_6 : decode cX2_shiftUpBits 6 = .ok (.if_icmp .ge 31, 3) := dk_162 0 31 (dk_at dksX2_shiftUpBits_0 6 rfl rfl)
theorem dX2_shiftUpBits_9 : decode cX2_shiftUpBits 9 = .ok (.aload_n 1, 1) := dk_43 (dk_at dksX2_shiftUpBits_0 9 rfl rfl)
theorem dX2_shiftUpBits_10 : decode cX2_shiftUpBits 10 = .ok (.iload 4, 2) := dk_21 4 (dk_at dksX2_shiftUpBits_0 10 rfl rfl)
theorem dX2_shiftUpBits_12 : decode cX2_shiftUpBits 12 = .ok (.iaload, 1) := dk_46 (dk_at dksX2_shiftUpBits_0 12 rfl rfl)
theorem dX2_shiftUpBits_13 : decode cX2_shiftUpBits 13 = .ok (.istore 5, 2) := dk_54 5 (dk_at dksX2_shiftUpBits_0 13 rfl rfl)
theorem dX2_shiftUpBits_15 : decode cX2_shiftUpBits 15 = .ok (.aload_n 1, 1) := dk_43 (dk_at dksX2_shiftUpBits_0 15 rfl rfl)
theorem dX2_shiftUpBits_16 : decode cX2_shiftUpBits 16 = .ok (.iload 4, 2) := dk_21 4 (dk_at dksX2_shiftUpBits_0 16 rfl rfl)
theorem dX2_shiftUpBits_18 : decode cX2_shiftUpBits 18 = .ok (.iload 5, 2) := dk_21 5 (dk_at dksX2_shiftUpBits_0 18 rfl rfl)
theorem dX2_shiftUpBits_20 : decode cX2_shiftUpBits 20 = .ok (.iload_n 2, 1) := dk_28 (dk_at dksX2_shiftUpBits_0 20 rfl rfl)
theorem dX2_shiftUpBits_21 : decode cX2_shiftUpBits 21 = .ok (.ishl, 1) := dk_120 (dk_at dksX2_shiftUpBits_0 21 rfl rfl)
theorem dX2_shiftUpBits_22 : decode cX2_shiftUpBits 22 = .ok (.iload_n 3, 1) := dk_29 (dk_at dksX2_shiftUpBits_0 22 rfl rfl)
theorem dX2_shiftUpBits_23 : decode cX2_shiftUpBits 23 = .ok (.iload_n 2, 1) := dk_28 (dk_at dksX2_shiftUpBits_0 23 rfl rfl)
theorem dX2_shiftUpBits_24 : decode cX2_shiftUpBits 24 = .ok (.ineg, 1) := dk_116 (dk_at dksX2_shiftUpBits_1 0 rfl rfl)
theorem dX2_shiftUpBits_25 : decode cX2_shiftUpBits 25 = .ok (.iushr, 1) := dk_124 (dk_at dksX2_shiftUpBits_1 1 rfl rfl)
theorem dX2_shiftUpBits_26 : decode cX2_shiftUpBits 26 = .ok (.ior, 1) := dk_128 (dk_at dksX2_shiftUpBits_1 2 rfl rfl)
theorem dX2_shiftUpBits_27 : decode cX2_shiftUpBits 27 = .ok (.iastore, 1) := dk_79 (dk_at dksX2_shiftUpBits_1 3 rfl rfl)
theorem dX2_shiftUpBits_28 : decode cX2_shiftUpBits 28 = .ok (.iload 5, 2) := dk_21 5 (dk_at dksX2_shiftUpBits_1 4 rfl rfl)
theorem dX2_shiftUpBits_30 : decode cX2_shiftUpBits 30 = .ok (.istore_n 3, 1) := dk_62 (dk_at dksX2_shiftUpBits_1 6 rfl rfl)
theorem dX2_shiftUpBits_31 : decode cX2_shiftUpBits 31 = .ok (.iinc 4 1, 3) := dk_132 4 1 (dk_at dksX2_shiftUpBits_1 7 rfl rfl)
theorem dX2_shiftUpBits_34 : decode cX2_shiftUpBits 34 = .ok (.goto (-31), 3) := dk_167 255 225 (dk_at dksX2_shiftUpBits_1 10 rfl rfl)
theorem dX2_shiftUpBits_37 : decode cX2_shiftUpBits 37 = .ok (.iload_n 3, 1) := dk_29 (dk_at dksX2_shiftUpBits_1 13 rfl rfl)
theorem dX2_shiftUpBits_38 : decode cX2_shiftUpBits 38 = .ok (.iload_n 2, 1) := dk_28 (dk_at dksX2_shiftUpBits_1 14 rfl rfl)
theorem dX2_shiftUpBits_39 : decode cX2_shiftUpBits 39 = .ok (.ineg, 1) := dk_116 (dk_at dksX2_shiftUpBits_1 15 rfl rfl)
theorem dX2_shiftUpBits_40 : decode cX2_shiftUpBits 40 = .ok (.iushr, 1) := dk_124 (dk_at dksX2_shiftUpBits_1 16 rfl rfl)
theorem dX2_shiftUpBits_41 : decode cX2_shiftUpBits 41 = .ok (.ireturn, 1) := dk_172 (dk_at dksX2_shiftUpBits_1 17 rfl rfl)
abbrev cX2_shiftDownBits : ByteArray := prog_1_method_10_code
def yX2_shiftDownBits : MethodName := ⟨RX2, "shiftDownBits", "(I[III)I"⟩
def dkwX2_shiftDownBits_1 : List UInt8 := [29, 28, 116, 120, 128, 79, 21, 5, 62, 167, 255, 226, 29, 28, 116, 120, 172]
abbrev dktX2_shiftDownBits_1 : List UInt8 := dkwX2_shiftDownBits_1 ++ []
def dkwX2_shiftDownBits_0 : List UInt8 := [26, 54, 4, 132, 4, 255, 21, 4, 155, 0, 28, 43, 21, 4, 46, 54, 5, 43, 21, 4, 21, 5, 28, 124]
abbrev dktX2_shiftDownBits_0 : List UInt8 := dkwX2_shiftDownBits_0 ++ dktX2_shiftDownBits_1
theorem dksX2_shiftDownBits_0 : cX2_shiftDownBits.data.toList.drop 0 = dktX2_shiftDownBits_0 := by decide +kernel
theorem dksX2_shiftDownBits_1 : cX2_shiftDownBits.data.toList.drop 24 = dktX2_shiftDownBits_1 := dk_seg dksX2_shiftDownBits_0 24 rfl rfl
theorem dX2_shiftDownBits_0 : decode cX2_shiftDownBits 0 = .ok (.iload_n 0, 1) := dk_26 (dk_at dksX2_shiftDownBits_0 0 rfl rfl)
theorem dX2_shiftDownBits_1 : decode cX2_shiftDownBits 1 = .ok (.istore 4, 2) := dk_54 4 (dk_at dksX2_shiftDownBits_0 1 rfl rfl)
theorem dX2_shiftDownBits_3 : decode cX2_shiftDownBits 3 = .ok (.iinc 4 (-1), 3) := dk_132 4 255 (dk_at dksX2_shiftDownBits_0 3 rfl rfl)
theorem dX2_shiftDownBits_6 : decode cX2_shiftDownBits 6 = .ok (.iload 4, 2) := dk_21 4 (dk_at dksX2_shiftDownBits_0 6 rfl rfl)
theorem dX2_shiftDownBits_8 : decode cX2_shiftDownBits 8 = .ok (.ifCond .lt 28, 3) := dk_155 0 28 (dk_at dksX2_shiftDownBits_0 8 rfl rfl)
theorem dX2_shiftDownBits_11 : decode cX2_shiftDownBits 11 = .ok (.aload_n 1, 1) := dk_43 (dk_at dksX2_shiftDownBits_0 11 rfl rfl)
theorem dX2_shiftDownBits_12 : decode cX2_shiftDownBits 12 = .ok (.iload 4, 2) := dk_21 4 (dk_at dksX2_shiftDownBits_0 12 rfl rfl)
theorem dX2_shiftDownBits_14 : decode cX2_shiftDownBits 14 = .ok (.iaload, 1) := dk_46 (dk_at dksX2_shiftDownBits_0 14 rfl rfl)
theorem dX2_shiftDownBits_15 : decode cX2_shiftDownBits 15 = .ok (.istore 5, 2) := dk_54 5 (dk_at dksX2_shiftDownBits_0 15 rfl rfl)
theorem dX2_shiftDownBits_17 : decode cX2_shiftDownBits 17 = .ok (.aload_n 1, 1) := dk_43 (dk_at dksX2_shiftDownBits_0 17 rfl rfl)
theorem dX2_shiftDownBits_18 : decode cX2_shiftDownBits 18 = .ok (.iload 4, 2) := dk_21 4 (dk_at dksX2_shiftDownBits_0 18 rfl rfl)
theorem dX2_shiftDownBits_20 : decode cX2_shiftDownBits 20 = .ok (.iload 5, 2) := dk_21 5 (dk_at dksX2_shiftDownBits_0 20 rfl rfl)
theorem dX2_shiftDownBits_22 : decode cX2_shiftDownBits 22 = .ok (.iload_n 2, 1) := dk_28 (dk_at dksX2_shiftDownBits_0 22 rfl rfl)
theorem dX2_shiftDownBits_23 : decode cX2_shiftDownBits 23 = .ok (.iushr, 1) := dk_124 (dk_at dksX2_shiftDownBits_0 23 rfl rfl)
theorem dX2_shiftDownBits_24 : decode cX2_shiftDownBits 24 = .ok (.iload_n 3, 1) := dk_29 (dk_at dksX2_shiftDownBits_1 0 rfl rfl)
theorem dX2_shiftDownBits_25 : decode cX2_shiftDownBits 25 = .ok (.iload_n 2, 1) := dk_28 (dk_at dksX2_shiftDownBits_1 1 rfl rfl)
theorem dX2_shiftDownBits_26 : decode cX2_shiftDownBits 26 = .ok (.ineg, 1) := dk_116 (dk_at dksX2_shiftDownBits_1 2 rfl rfl)
theorem dX2_shiftDownBits_27 : decode cX2_shiftDownBits 27 = .ok (.ishl, 1) := dk_120 (dk_at dksX2_shiftDownBits_1 3 rfl rfl)
theorem dX2_shiftDownBits_28 : decode cX2_shiftDownBits 28 = .ok (.ior, 1) := dk_128 (dk_at dksX2_shiftDownBits_1 4 rfl rfl)
theorem dX2_shiftDownBits_29 : decode cX2_shiftDownBits 29 = .ok (.iastore, 1) := dk_79 (dk_at dksX2_shiftDownBits_1 5 rfl rfl)
theorem dX2_shiftDownBits_30 : decode cX2_shiftDownBits 30 = .ok (.iload 5, 2) := dk_21 5 (dk_at dksX2_shiftDownBits_1 6 rfl rfl)
theorem dX2_shiftDownBits_32 : decode cX2_shiftDownBits 32 = .ok (.istore_n 3, 1) := dk_62 (dk_at dksX2_shiftDownBits_1 8 rfl rfl)
theorem dX2_shiftDownBits_33 : decode cX2_shiftDownBits 33 = .ok (.goto (-30), 3) := dk_167 255 226 (dk_at dksX2_shiftDownBits_1 9 rfl rfl)
theorem dX2_shiftDownBits_36 : decode cX2_shiftDownBits 36 = .ok (.iload_n 3, 1) := dk_29 (dk_at dksX2_shiftDownBits_1 12 rfl rfl)
theorem dX2_shiftDownBits_37 : decode cX2_shiftDownBits 37 = .ok (.iload_n 2, 1) := dk_28 (dk_at dksX2_shiftDownBits_1 13 rfl rfl)
theorem dX2_shiftDownBits_38 : decode cX2_shiftDownBits 38 = .ok (.ineg, 1) := dk_116 (dk_at dksX2_shiftDownBits_1 14 rfl rfl)
theorem dX2_shiftDownBits_39 : decode cX2_shiftDownBits 39 = .ok (.ishl, 1) := dk_120 (dk_at dksX2_shiftDownBits_1 15 rfl rfl)
theorem dX2_shiftDownBits_40 : decode cX2_shiftDownBits 40 = .ok (.ireturn, 1) := dk_172 (dk_at dksX2_shiftDownBits_1 16 rfl rfl)
abbrev cX2_inc : ByteArray := prog_1_method_5_code
def yX2_inc : MethodName := ⟨RX2, "inc", "(I[I)I"⟩
def dkwX2_inc_1 : List UInt8 := [167, 255, 235, 4, 172]
abbrev dktX2_inc_1 : List UInt8 := dkwX2_inc_1 ++ []
def dkwX2_inc_0 : List UInt8 := [3, 61, 28, 26, 162, 0, 22, 43, 28, 92, 46, 4, 96, 91, 79, 153, 0, 5, 3, 172, 132, 2, 1]
abbrev dktX2_inc_0 : List UInt8 := dkwX2_inc_0 ++ dktX2_inc_1
theorem dksX2_inc_0 : cX2_inc.data.toList.drop 0 = dktX2_inc_0 := by decide +kernel
theorem dksX2_inc_1 : cX2_inc.data.toList.drop 23 = dktX2_inc_1 := dk_seg dksX2_inc_0 23 rfl rfl
theorem dX2_inc_0 : decode cX2_inc 0 = .ok (.iconst 0, 1) := dk_3 (dk_at dksX2_inc_0 0 rfl rfl)
theorem dX2_inc_1 : decode cX2_inc 1 = .ok (.istore_n 2, 1) := dk_61 (dk_at dksX2_inc_0 1 rfl rfl)
theorem dX2_inc_2 : decode cX2_inc 2 = .ok (.iload_n 2, 1) := dk_28 (dk_at dksX2_inc_0 2 rfl rfl)
theorem dX2_inc_3 : decode cX2_inc 3 = .ok (.iload_n 0, 1) := dk_26 (dk_at dksX2_inc_0 3 rfl rfl)
theorem dX2_inc_4 : decode cX2_inc 4 = .ok (.if_icmp .ge 22, 3) := dk_162 0 22 (dk_at dksX2_inc_0 4 rfl rfl)
theorem dX2_inc_7 : decode cX2_inc 7 = .ok (.aload_n 1, 1) := dk_43 (dk_at dksX2_inc_0 7 rfl rfl)
theorem dX2_inc_8 : decode cX2_inc 8 = .ok (.iload_n 2, 1) := dk_28 (dk_at dksX2_inc_0 8 rfl rfl)
theorem dX2_inc_9 : decode cX2_inc 9 = .ok (.dup2, 1) := dk_92 (dk_at dksX2_inc_0 9 rfl rfl)
theorem dX2_inc_10 : decode cX2_inc 10 = .ok (.iaload, 1) := dk_46 (dk_at dksX2_inc_0 10 rfl rfl)
theorem dX2_inc_11 : decode cX2_inc 11 = .ok (.iconst 1, 1) := dk_4 (dk_at dksX2_inc_0 11 rfl rfl)
theorem dX2_inc_12 : decode cX2_inc 12 = .ok (.iadd, 1) := dk_96 (dk_at dksX2_inc_0 12 rfl rfl)
theorem dX2_inc_13 : decode cX2_inc 13 = .ok (.dup_x2, 1) := dk_91 (dk_at dksX2_inc_0 13 rfl rfl)
theorem dX2_inc_14 : decode cX2_inc 14 = .ok (.iastore, 1) := dk_79 (dk_at dksX2_inc_0 14 rfl rfl)
theorem dX2_inc_15 : decode cX2_inc 15 = .ok (.ifCond .eq 5, 3) := dk_153 0 5 (dk_at dksX2_inc_0 15 rfl rfl)
theorem dX2_inc_18 : decode cX2_inc 18 = .ok (.iconst 0, 1) := dk_3 (dk_at dksX2_inc_0 18 rfl rfl)
theorem dX2_inc_19 : decode cX2_inc 19 = .ok (.ireturn, 1) := dk_172 (dk_at dksX2_inc_0 19 rfl rfl)
theorem dX2_inc_20 : decode cX2_inc 20 = .ok (.iinc 2 1, 3) := dk_132 2 1 (dk_at dksX2_inc_0 20 rfl rfl)
theorem dX2_inc_23 : decode cX2_inc 23 = .ok (.goto (-21), 3) := dk_167 255 235 (dk_at dksX2_inc_1 0 rfl rfl)
theorem dX2_inc_26 : decode cX2_inc 26 = .ok (.iconst 1, 1) := dk_4 (dk_at dksX2_inc_1 3 rfl rfl)
theorem dX2_inc_27 : decode cX2_inc 27 = .ok (.ireturn, 1) := dk_172 (dk_at dksX2_inc_1 4 rfl rfl)
abbrev cX2_dec : ByteArray := prog_1_method_3_code
def yX2_dec : MethodName := ⟨RX2, "dec", "(I[I)I"⟩
def dkwX2_dec_1 : List UInt8 := [167, 255, 234, 2, 172]
abbrev dktX2_dec_1 : List UInt8 := dkwX2_dec_1 ++ []
def dkwX2_dec_0 : List UInt8 := [3, 61, 28, 26, 162, 0, 23, 43, 28, 92, 46, 4, 100, 91, 79, 2, 159, 0, 5, 3, 172, 132, 2, 1]
abbrev dktX2_dec_0 : List UInt8 := dkwX2_dec_0 ++ dktX2_dec_1
theorem dksX2_dec_0 : cX2_dec.data.toList.drop 0 = dktX2_dec_0 := by decide +kernel
theorem dksX2_dec_1 : cX2_dec.data.toList.drop 24 = dktX2_dec_1 := dk_seg dksX2_dec_0 24 rfl rfl
theorem dX2_dec_0 : decode cX2_dec 0 = .ok (.iconst 0, 1) := dk_3 (dk_at dksX2_dec_0 0 rfl rfl)
theorem dX2_dec_1 : decode cX2_dec 1 = .ok (.istore_n 2, 1) := dk_61 (dk_at dksX2_dec_0 1 rfl rfl)
theorem dX2_dec_2 : decode cX2_dec 2 = .ok (.iload_n 2, 1) := dk_28 (dk_at dksX2_dec_0 2 rfl rfl)
theorem dX2_dec_3 : decode cX2_dec 3 = .ok (.iload_n 0, 1) := dk_26 (dk_at dksX2_dec_0 3 rfl rfl)
theorem dX2_dec_4 : decode cX2_dec 4 = .ok (.if_icmp .ge 23, 3) := dk_162 0 23 (dk_at dksX2_dec_0 4 rfl rfl)
theorem dX2_dec_7 : decode cX2_dec 7 = .ok (.aload_n 1, 1) := dk_43 (dk_at dksX2_dec_0 7 rfl rfl)
theorem dX2_dec_8 : decode cX2_dec 8 = .ok (.iload_n 2, 1) := dk_28 (dk_at dksX2_dec_0 8 rfl rfl)
theorem dX2_dec_9 : decode cX2_dec 9 = .ok (.dup2, 1) := dk_92 (dk_at dksX2_dec_0 9 rfl rfl)
theorem dX2_dec_10 : decode cX2_dec 10 = .ok (.iaload, 1) := dk_46 (dk_at dksX2_dec_0 10 rfl rfl)
theorem dX2_dec_11 : decode cX2_dec 11 = .ok (.iconst 1, 1) := dk_4 (dk_at dksX2_dec_0 11 rfl rfl)
theorem dX2_dec_12 : decode cX2_dec 12 = .ok (.isub, 1) := dk_100 (dk_at dksX2_dec_0 12 rfl rfl)
theorem dX2_dec_13 : decode cX2_dec 13 = .ok (.dup_x2, 1) := dk_91 (dk_at dksX2_dec_0 13 rfl rfl)
theorem dX2_dec_14 : decode cX2_dec 14 = .ok (.iastore, 1) := dk_79 (dk_at dksX2_dec_0 14 rfl rfl)
theorem dX2_dec_15 : decode cX2_dec 15 = .ok (.iconst (-1), 1) := dk_2 (dk_at dksX2_dec_0 15 rfl rfl)
theorem dX2_dec_16 : decode cX2_dec 16 = .ok (.if_icmp .eq 5, 3) := dk_159 0 5 (dk_at dksX2_dec_0 16 rfl rfl)
theorem dX2_dec_19 : decode cX2_dec 19 = .ok (.iconst 0, 1) := dk_3 (dk_at dksX2_dec_0 19 rfl rfl)
theorem dX2_dec_20 : decode cX2_dec 20 = .ok (.ireturn, 1) := dk_172 (dk_at dksX2_dec_0 20 rfl rfl)
theorem dX2_dec_21 : decode cX2_dec 21 = .ok (.iinc 2 1, 3) := dk_132 2 1 (dk_at dksX2_dec_0 21 rfl rfl)
theorem dX2_dec_24 : decode cX2_dec 24 = .ok (.goto (-22), 3) := dk_167 255 234 (dk_at dksX2_dec_1 0 rfl rfl)
theorem dX2_dec_27 : decode cX2_dec 27 = .ok (.iconst (-1), 1) := dk_2 (dk_at dksX2_dec_1 3 rfl rfl)
theorem dX2_dec_28 : decode cX2_dec 28 = .ok (.ireturn, 1) := dk_172 (dk_at dksX2_dec_1 4 rfl rfl)
abbrev cX2_gte : ByteArray := prog_1_method_4_code
def yX2_gte : MethodName := ⟨RX2, "gte", "(I[I[I)Z"⟩
def dkwX2_gte_2 : List UInt8 := [4, 172]
abbrev dktX2_gte_2 : List UInt8 := dkwX2_gte_2 ++ []
def dkwX2_gte_1 : List UInt8 := [21, 4, 21, 5, 162, 0, 5, 3, 172, 21, 4, 21, 5, 164, 0, 5, 4, 172, 132, 3, 255, 167, 255, 215]
abbrev dktX2_gte_1 : List UInt8 := dkwX2_gte_1 ++ dktX2_gte_2
def dkwX2_gte_0 : List UInt8 := [26, 4, 100, 62, 29, 155, 0, 43, 43, 29, 46, 18, 13, 96, 54, 4, 44, 29, 46, 18, 13, 96, 54, 5]
abbrev dktX2_gte_0 : List UInt8 := dkwX2_gte_0 ++ dktX2_gte_1
theorem dksX2_gte_0 : cX2_gte.data.toList.drop 0 = dktX2_gte_0 := by decide +kernel
theorem dksX2_gte_1 : cX2_gte.data.toList.drop 24 = dktX2_gte_1 := dk_seg dksX2_gte_0 24 rfl rfl
theorem dksX2_gte_2 : cX2_gte.data.toList.drop 48 = dktX2_gte_2 := dk_seg dksX2_gte_1 24 rfl rfl
theorem dX2_gte_0 : decode cX2_gte 0 = .ok (.iload_n 0, 1) := dk_26 (dk_at dksX2_gte_0 0 rfl rfl)
theorem dX2_gte_1 : decode cX2_gte 1 = .ok (.iconst 1, 1) := dk_4 (dk_at dksX2_gte_0 1 rfl rfl)
theorem dX2_gte_2 : decode cX2_gte 2 = .ok (.isub, 1) := dk_100 (dk_at dksX2_gte_0 2 rfl rfl)
theorem dX2_gte_3 : decode cX2_gte 3 = .ok (.istore_n 3, 1) := dk_62 (dk_at dksX2_gte_0 3 rfl rfl)
theorem dX2_gte_4 : decode cX2_gte 4 = .ok (.iload_n 3, 1) := dk_29 (dk_at dksX2_gte_0 4 rfl rfl)
theorem dX2_gte_5 : decode cX2_gte 5 = .ok (.ifCond .lt 43, 3) := dk_155 0 43 (dk_at dksX2_gte_0 5 rfl rfl)
theorem dX2_gte_8 : decode cX2_gte 8 = .ok (.aload_n 1, 1) := dk_43 (dk_at dksX2_gte_0 8 rfl rfl)
theorem dX2_gte_9 : decode cX2_gte 9 = .ok (.iload_n 3, 1) := dk_29 (dk_at dksX2_gte_0 9 rfl rfl)
theorem dX2_gte_10 : decode cX2_gte 10 = .ok (.iaload, 1) := dk_46 (dk_at dksX2_gte_0 10 rfl rfl)
theorem dX2_gte_11 : decode cX2_gte 11 = .ok (.ldc 13, 2) := dk_18 13 (dk_at dksX2_gte_0 11 rfl rfl)
theorem dX2_gte_13 : decode cX2_gte 13 = .ok (.iadd, 1) := dk_96 (dk_at dksX2_gte_0 13 rfl rfl)
theorem dX2_gte_14 : decode cX2_gte 14 = .ok (.istore 4, 2) := dk_54 4 (dk_at dksX2_gte_0 14 rfl rfl)
theorem dX2_gte_16 : decode cX2_gte 16 = .ok (.aload_n 2, 1) := dk_44 (dk_at dksX2_gte_0 16 rfl rfl)
theorem dX2_gte_17 : decode cX2_gte 17 = .ok (.iload_n 3, 1) := dk_29 (dk_at dksX2_gte_0 17 rfl rfl)
theorem dX2_gte_18 : decode cX2_gte 18 = .ok (.iaload, 1) := dk_46 (dk_at dksX2_gte_0 18 rfl rfl)
theorem dX2_gte_19 : decode cX2_gte 19 = .ok (.ldc 13, 2) := dk_18 13 (dk_at dksX2_gte_0 19 rfl rfl)
theorem dX2_gte_21 : decode cX2_gte 21 = .ok (.iadd, 1) := dk_96 (dk_at dksX2_gte_0 21 rfl rfl)
theorem dX2_gte_22 : decode cX2_gte 22 = .ok (.istore 5, 2) := dk_54 5 (dk_at dksX2_gte_0 22 rfl rfl)
theorem dX2_gte_24 : decode cX2_gte 24 = .ok (.iload 4, 2) := dk_21 4 (dk_at dksX2_gte_1 0 rfl rfl)
theorem dX2_gte_26 : decode cX2_gte 26 = .ok (.iload 5, 2) := dk_21 5 (dk_at dksX2_gte_1 2 rfl rfl)
theorem dX2_gte_28 : decode cX2_gte 28 = .ok (.if_icmp .ge 5, 3) := dk_162 0 5 (dk_at dksX2_gte_1 4 rfl rfl)
theorem dX2_gte_31 : decode cX2_gte 31 = .ok (.iconst 0, 1) := dk_3 (dk_at dksX2_gte_1 7 rfl rfl)
theorem dX2_gte_32 : decode cX2_gte 32 = .ok (.ireturn, 1) := dk_172 (dk_at dksX2_gte_1 8 rfl rfl)
theorem dX2_gte_33 : decode cX2_gte 33 = .ok (.iload 4, 2) := dk_21 4 (dk_at dksX2_gte_1 9 rfl rfl)
theorem dX2_gte_35 : decode cX2_gte 35 = .ok (.iload 5, 2) := dk_21 5 (dk_at dksX2_gte_1 11 rfl rfl)
theorem dX2_gte_37 : decode cX2_gte 37 = .ok (.if_icmp .le 5, 3) := dk_164 0 5 (dk_at dksX2_gte_1 13 rfl rfl)
theorem dX2_gte_40 : decode cX2_gte 40 = .ok (.iconst 1, 1) := dk_4 (dk_at dksX2_gte_1 16 rfl rfl)
theorem dX2_gte_41 : decode cX2_gte 41 = .ok (.ireturn, 1) := dk_172 (dk_at dksX2_gte_1 17 rfl rfl)
theorem dX2_gte_42 : decode cX2_gte 42 = .ok (.iinc 3 (-1), 3) := dk_132 3 255 (dk_at dksX2_gte_1 18 rfl rfl)
theorem dX2_gte_45 : decode cX2_gte 45 = .ok (.goto (-41), 3) := dk_167 255 215 (dk_at dksX2_gte_1 21 rfl rfl)
theorem dX2_gte_48 : decode cX2_gte 48 = .ok (.iconst 1, 1) := dk_4 (dk_at dksX2_gte_2 0 rfl rfl)
theorem dX2_gte_49 : decode cX2_gte 49 = .ok (.ireturn, 1) := dk_172 (dk_at dksX2_gte_2 1 rfl rfl)
theorem q2 : (Jvm.Cond.initialized "Nat") ∈ lw_all := lw_g (lw_at lw_m0 2 rfl) rfl
theorem q12 : (Jvm.Cond.static ({ cls := "Nat", name := "add", desc := "(I[I[I[I)I" } : Jvm.MethodName)) ∈ lw_all := lw_g (lw_at lw_m0 12 rfl) rfl
theorem q13 : (Jvm.Cond.code ({ cls := "Nat", name := "add", desc := "(I[I[I[I)I" } : Jvm.MethodName) prog_1_method_2_code (7 : Nat) (Option.some Jvm.ClassFile.FieldType.int)) ∈ lw_all := lw_g (lw_at lw_m0 13 rfl) rfl
theorem q14 : (Jvm.Cond.constantLong "Nat" (9 : Nat) (4294967295 : Int64)) ∈ lw_all := lw_g (lw_at lw_m0 14 rfl) rfl
theorem q20 : (Jvm.Cond.static ({ cls := "Nat", name := "sub", desc := "(I[I[I[I)I" } : Jvm.MethodName)) ∈ lw_all := lw_g (lw_at lw_m0 20 rfl) rfl
theorem q21 : (Jvm.Cond.code ({ cls := "Nat", name := "sub", desc := "(I[I[I[I)I" } : Jvm.MethodName) prog_1_method_15_code (7 : Nat) (Option.some Jvm.ClassFile.FieldType.int)) ∈ lw_all := lw_g (lw_at lw_m0 21 rfl) rfl
theorem q27 : (Jvm.Cond.static ({ cls := "Nat", name := "mul", desc := "(I[I[I[I)V" } : Jvm.MethodName)) ∈ lw_all := lw_g (lw_at lw_m0 27 rfl) rfl
theorem q28 : (Jvm.Cond.code ({ cls := "Nat", name := "mul", desc := "(I[I[I[I)V" } : Jvm.MethodName) prog_1_method_6_code (5 : Nat) (Option.none : Option Jvm.ClassFile.FieldType)) ∈ lw_all := lw_g (lw_at lw_m0 28 rfl) rfl
theorem q29 : (Jvm.Cond.methodLink "Nat" (14 : Nat) ({ cls := "Nat", name := "mulWord", desc := "(II[I[I)I" } : Jvm.MethodName)) ∈ lw_all := lw_g (lw_at lw_m0 29 rfl) rfl
theorem q30 : (Jvm.Cond.static ({ cls := "Nat", name := "mulWord", desc := "(II[I[I)I" } : Jvm.MethodName)) ∈ lw_all := lw_g (lw_at lw_m0 30 rfl) rfl
theorem q31 : (Jvm.Cond.code ({ cls := "Nat", name := "mulWord", desc := "(II[I[I)I" } : Jvm.MethodName) prog_1_method_8_code (9 : Nat) (Option.some Jvm.ClassFile.FieldType.int)) ∈ lw_all := lw_g (lw_at lw_m0 31 rfl) rfl
theorem q32 : (Jvm.Cond.methodLink "Nat" (18 : Nat) ({ cls := "Nat", name := "mulWordAddTo", desc := "(II[II[II)I" } : Jvm.MethodName)) ∈ lw_all := lw_g (lw_at lw_m0 32 rfl) rfl
theorem q33 : (Jvm.Cond.static ({ cls := "Nat", name := "mulWordAddTo", desc := "(II[II[II)I" } : Jvm.MethodName)) ∈ lw_all := lw_g (lw_at lw_m0 33 rfl) rfl
theorem q34 : (Jvm.Cond.code ({ cls := "Nat", name := "mulWordAddTo", desc := "(II[II[II)I" } : Jvm.MethodName) prog_1_method_9_code (11 : Nat) (Option.some Jvm.ClassFile.FieldType.int)) ∈ lw_all := lw_g (lw_at lw_m0 34 rfl) rfl
theorem q40 : (Jvm.Cond.static ({ cls := "Nat", name := "square", desc := "(I[I[I)V" } : Jvm.MethodName)) ∈ lw_all := lw_g (lw_at lw_m0 40 rfl) rfl
theorem q41 : (Jvm.Cond.code ({ cls := "Nat", name := "square", desc := "(I[I[I)V" } : Jvm.MethodName) prog_1_method_13_code (11 : Nat) (Option.none : Option Jvm.ClassFile.FieldType)) ∈ lw_all := lw_g (lw_at lw_m0 41 rfl) rfl
theorem q42 : (Jvm.Cond.methodLink "Nat" (22 : Nat) ({ cls := "Nat", name := "squareWordAddTo", desc := "([II[I)I" } : Jvm.MethodName)) ∈ lw_all := lw_g (lw_at lw_m0 42 rfl) rfl
theorem q43 : (Jvm.Cond.static ({ cls := "Nat", name := "squareWordAddTo", desc := "([II[I)I" } : Jvm.MethodName)) ∈ lw_all := lw_g (lw_at lw_m0 43 rfl) rfl
theorem q44 : (Jvm.Cond.code ({ cls := "Nat", name := "squareWordAddTo", desc := "([II[I)I" } : Jvm.MethodName) prog_1_method_14_code (8 : Nat) (Option.some Jvm.ClassFile.FieldType.int)) ∈ lw_all := lw_g (lw_at lw_m0 44 rfl) rfl
theorem q45 : (Jvm.Cond.methodLink "Nat" (26 : Nat) ({ cls := "Nat", name := "shiftUpBit", desc := "(I[II)I" } : Jvm.MethodName)) ∈ lw_all := lw_g (lw_at lw_m0 45 rfl) rfl
theorem q46 : (Jvm.Cond.static ({ cls := "Nat", name := "shiftUpBit", desc := "(I[II)I" } : Jvm.MethodName)) ∈ lw_all := lw_g (lw_at lw_m0 46 rfl) rfl
theorem q47 : (Jvm.Cond.code ({ cls := "Nat", name := "shiftUpBit", desc := "(I[II)I" } : Jvm.MethodName) prog_1_method_11_code (5 : Nat) (Option.some Jvm.ClassFile.FieldType.int)) ∈ lw_all := lw_g (lw_at lw_m0 47 rfl) rfl
theorem q53 : (Jvm.Cond.static ({ cls := "Nat", name := "mulAddTo", desc := "(I[I[I[I)I" } : Jvm.MethodName)) ∈ lw_all := lw_g (lw_at lw_m0 53 rfl) rfl
theorem q54 : (Jvm.Cond.code ({ cls := "Nat", name := "mulAddTo", desc := "(I[I[I[I)I" } : Jvm.MethodName) prog_1_method_7_code (7 : Nat) (Option.some Jvm.ClassFile.FieldType.int)) ∈ lw_all := lw_g (lw_at lw_m0 54 rfl) rfl
theorem q61 : (Jvm.Cond.static ({ cls := "Nat", name := "shiftUpBits", desc := "(I[III)I" } : Jvm.MethodName)) ∈ lw_all := lw_g (lw_at lw_m0 61 rfl) rfl
theorem q62 : (Jvm.Cond.code ({ cls := "Nat", name := "shiftUpBits", desc := "(I[III)I" } : Jvm.MethodName) prog_1_method_12_code (6 : Nat) (Option.some Jvm.ClassFile.FieldType.int)) ∈ lw_all := lw_g (lw_at lw_m0 62 rfl) rfl
theorem q68 : (Jvm.Cond.static ({ cls := "Nat", name := "shiftDownBits", desc := "(I[III)I" } : Jvm.MethodName)) ∈ lw_all := lw_g (lw_at lw_m0 68 rfl) rfl
theorem q69 : (Jvm.Cond.code ({ cls := "Nat", name := "shiftDownBits", desc := "(I[III)I" } : Jvm.MethodName) prog_1_method_10_code (6 : Nat) (Option.some Jvm.ClassFile.FieldType.int)) ∈ lw_all := lw_g (lw_at lw_m0 69 rfl) rfl
theorem q75 : (Jvm.Cond.static ({ cls := "Nat", name := "inc", desc := "(I[I)I" } : Jvm.MethodName)) ∈ lw_all := lw_g (lw_at lw_m0 75 rfl) rfl
theorem q76 : (Jvm.Cond.code ({ cls := "Nat", name := "inc", desc := "(I[I)I" } : Jvm.MethodName) prog_1_method_5_code (3 : Nat) (Option.some Jvm.ClassFile.FieldType.int)) ∈ lw_all := lw_g (lw_at lw_m0 76 rfl) rfl
theorem q82 : (Jvm.Cond.static ({ cls := "Nat", name := "dec", desc := "(I[I)I" } : Jvm.MethodName)) ∈ lw_all := lw_g (lw_at lw_m0 82 rfl) rfl
theorem q83 : (Jvm.Cond.code ({ cls := "Nat", name := "dec", desc := "(I[I)I" } : Jvm.MethodName) prog_1_method_3_code (3 : Nat) (Option.some Jvm.ClassFile.FieldType.int)) ∈ lw_all := lw_g (lw_at lw_m0 83 rfl) rfl
theorem q89 : (Jvm.Cond.static ({ cls := "Nat", name := "gte", desc := "(I[I[I)Z" } : Jvm.MethodName)) ∈ lw_all := lw_g (lw_at lw_m0 89 rfl) rfl
theorem q90 : (Jvm.Cond.code ({ cls := "Nat", name := "gte", desc := "(I[I[I)Z" } : Jvm.MethodName) prog_1_method_4_code (6 : Nat) (Option.some Jvm.ClassFile.FieldType.boolean)) ∈ lw_all := lw_g (lw_at lw_m0 90 rfl) rfl
theorem q91 : (Jvm.Cond.constant "Nat" (13 : Nat) (-2147483648 : Int32)) ∈ lw_all := lw_g (lw_at lw_m0 91 rfl) rfl
/-! WholeFile -/
set_option maxRecDepth 100000
def RX1 : String := "WholeFile"
def TX1 : u_T := fun k => match k with
  | 0 => ("WholeFile", "n", "I", false)
  | 1 => ("WholeFile", "file", "[[I", false)
  | _ => ("WholeFile", "wide", "[I", false)
def tyX1 : Nat → FieldType := fun k => match k with
  | 0 => .int
  | 1 => .array (.array .int)
  | _ => .array .int
abbrev wsX10 : List Cond := u_ws RX1 TX1 3
theorem nmX1 : ∀ a, a < 3 → ∀ b, b < 3 → a ≠ b → (TX1 a).2.1 ≠ (TX1 b).2.1 := by decide +kernel
theorem tyX1_ok : ∀ k, k < 3 → parseFieldDescriptor (TX1 k).2.2.1 = some (tyX1 k) := by decide +kernel
abbrev cX1_word : ByteArray := prog_2_method_4_code
def yX1_word : MethodName := ⟨RX1, "word", "(II)I"⟩
def dkwX1_word_0 : List UInt8 := [42, 180, 0, 15, 27, 6, 126, 50, 28, 16, 15, 126, 42, 180, 0, 7, 112, 46, 172]
abbrev dktX1_word_0 : List UInt8 := dkwX1_word_0 ++ []
theorem dksX1_word_0 : cX1_word.data.toList.drop 0 = dktX1_word_0 := by decide +kernel
theorem dX1_word_0 : decode cX1_word 0 = .ok (.aload_n 0, 1) := dk_42 (dk_at dksX1_word_0 0 rfl rfl)
theorem dX1_word_1 : decode cX1_word 1 = .ok (.getfield 15, 3) := dk_180 0 15 (dk_at dksX1_word_0 1 rfl rfl)
theorem dX1_word_4 : decode cX1_word 4 = .ok (.iload_n 1, 1) := dk_27 (dk_at dksX1_word_0 4 rfl rfl)
theorem dX1_word_5 : decode cX1_word 5 = .ok (.iconst 3, 1) := dk_6 (dk_at dksX1_word_0 5 rfl rfl)
theorem dX1_word_6 : decode cX1_word 6 = .ok (.iand, 1) := dk_126 (dk_at dksX1_word_0 6 rfl rfl)
theorem dX1_word_7 : decode cX1_word 7 = .ok (.aaload, 1) := dk_50 (dk_at dksX1_word_0 7 rfl rfl)
theorem dX1_word_8 : decode cX1_word 8 = .ok (.iload_n 2, 1) := dk_28 (dk_at dksX1_word_0 8 rfl rfl)
theorem dX1_word_9 : decode cX1_word 9 = .ok (.bipush 15, 2) := dk_16 15 (dk_at dksX1_word_0 9 rfl rfl)
theorem dX1_word_11 : decode cX1_word 11 = .ok (.iand, 1) := dk_126 (dk_at dksX1_word_0 11 rfl rfl)
theorem dX1_word_12 : decode cX1_word 12 = .ok (.aload_n 0, 1) := dk_42 (dk_at dksX1_word_0 12 rfl rfl)
theorem dX1_word_13 : decode cX1_word 13 = .ok (.getfield 7, 3) := dk_180 0 7 (dk_at dksX1_word_0 13 rfl rfl)
theorem dX1_word_16 : decode cX1_word 16 = .ok (.irem, 1) := dk_112 (dk_at dksX1_word_0 16 rfl rfl)
theorem dX1_word_17 : decode cX1_word 17 = .ok (.iaload, 1) := dk_46 (dk_at dksX1_word_0 17 rfl rfl)
theorem dX1_word_18 : decode cX1_word 18 = .ok (.ireturn, 1) := dk_172 (dk_at dksX1_word_0 18 rfl rfl)
abbrev cX1_add : ByteArray := prog_2_method_5_code
def yX1_add : MethodName := ⟨RX1, "add", "(III)I"⟩
def dkwX1_add_1 : List UInt8 := [27, 6, 126, 50, 184, 0, 22, 172]
abbrev dktX1_add_1 : List UInt8 := dkwX1_add_1 ++ []
def dkwX1_add_0 : List UInt8 := [42, 180, 0, 7, 42, 180, 0, 15, 28, 6, 126, 50, 42, 180, 0, 15, 29, 6, 126, 50, 42, 180, 0, 15]
abbrev dktX1_add_0 : List UInt8 := dkwX1_add_0 ++ dktX1_add_1
theorem dksX1_add_0 : cX1_add.data.toList.drop 0 = dktX1_add_0 := by decide +kernel
theorem dksX1_add_1 : cX1_add.data.toList.drop 24 = dktX1_add_1 := dk_seg dksX1_add_0 24 rfl rfl
theorem dX1_add_0 : decode cX1_add 0 = .ok (.aload_n 0, 1) := dk_42 (dk_at dksX1_add_0 0 rfl rfl)
theorem dX1_add_1 : decode cX1_add 1 = .ok (.getfield 7, 3) := dk_180 0 7 (dk_at dksX1_add_0 1 rfl rfl)
theorem dX1_add_4 : decode cX1_add 4 = .ok (.aload_n 0, 1) := dk_42 (dk_at dksX1_add_0 4 rfl rfl)
theorem dX1_add_5 : decode cX1_add 5 = .ok (.getfield 15, 3) := dk_180 0 15 (dk_at dksX1_add_0 5 rfl rfl)
theorem dX1_add_8 : decode cX1_add 8 = .ok (.iload_n 2, 1) := dk_28 (dk_at dksX1_add_0 8 rfl rfl)
theorem dX1_add_9 : decode cX1_add 9 = .ok (.iconst 3, 1) := dk_6 (dk_at dksX1_add_0 9 rfl rfl)
theorem dX1_add_10 : decode cX1_add 10 = .ok (.iand, 1) := dk_126 (dk_at dksX1_add_0 10 rfl rfl)
theorem dX1_add_11 : decode cX1_add 11 = .ok (.aaload, 1) := dk_50 (dk_at dksX1_add_0 11 rfl rfl)
theorem dX1_add_12 : decode cX1_add 12 = .ok (.aload_n 0, 1) := dk_42 (dk_at dksX1_add_0 12 rfl rfl)
theorem dX1_add_13 : decode cX1_add 13 = .ok (.getfield 15, 3) := dk_180 0 15 (dk_at dksX1_add_0 13 rfl rfl)
theorem dX1_add_16 : decode cX1_add 16 = .ok (.iload_n 3, 1) := dk_29 (dk_at dksX1_add_0 16 rfl rfl)
theorem dX1_add_17 : decode cX1_add 17 = .ok (.iconst 3, 1) := dk_6 (dk_at dksX1_add_0 17 rfl rfl)
theorem dX1_add_18 : decode cX1_add 18 = .ok (.iand, 1) := dk_126 (dk_at dksX1_add_0 18 rfl rfl)
theorem dX1_add_19 : decode cX1_add 19 = .ok (.aaload, 1) := dk_50 (dk_at dksX1_add_0 19 rfl rfl)
theorem dX1_add_20 : decode cX1_add 20 = .ok (.aload_n 0, 1) := dk_42 (dk_at dksX1_add_0 20 rfl rfl)
theorem dX1_add_21 : decode cX1_add 21 = .ok (.getfield 15, 3) := dk_180 0 15 (dk_at dksX1_add_0 21 rfl rfl)
theorem dX1_add_24 : decode cX1_add 24 = .ok (.iload_n 1, 1) := dk_27 (dk_at dksX1_add_1 0 rfl rfl)
theorem dX1_add_25 : decode cX1_add 25 = .ok (.iconst 3, 1) := dk_6 (dk_at dksX1_add_1 1 rfl rfl)
theorem dX1_add_26 : decode cX1_add 26 = .ok (.iand, 1) := dk_126 (dk_at dksX1_add_1 2 rfl rfl)
theorem dX1_add_27 : decode cX1_add 27 = .ok (.aaload, 1) := dk_50 (dk_at dksX1_add_1 3 rfl rfl)
theorem dX1_add_28 : decode cX1_add 28 = .ok (.invokestatic 22, 3) := dk_184 0 22 (dk_at dksX1_add_1 4 rfl rfl)
theorem dX1_add_31 : decode cX1_add 31 = .ok (.ireturn, 1) := dk_172 (dk_at dksX1_add_1 7 rfl rfl)
abbrev cX1_subtract : ByteArray := prog_2_method_6_code
def yX1_subtract : MethodName := ⟨RX1, "subtract", "(III)I"⟩
def dkwX1_subtract_1 : List UInt8 := [27, 6, 126, 50, 184, 0, 28, 172]
abbrev dktX1_subtract_1 : List UInt8 := dkwX1_subtract_1 ++ []
def dkwX1_subtract_0 : List UInt8 := [42, 180, 0, 7, 42, 180, 0, 15, 28, 6, 126, 50, 42, 180, 0, 15, 29, 6, 126, 50, 42, 180, 0, 15]
abbrev dktX1_subtract_0 : List UInt8 := dkwX1_subtract_0 ++ dktX1_subtract_1
theorem dksX1_subtract_0 : cX1_subtract.data.toList.drop 0 = dktX1_subtract_0 := by decide +kernel
theorem dksX1_subtract_1 : cX1_subtract.data.toList.drop 24 = dktX1_subtract_1 := dk_seg dksX1_subtract_0 24 rfl rfl
theorem dX1_subtract_0 : decode cX1_subtract 0 = .ok (.aload_n 0, 1) := dk_42 (dk_at dksX1_subtract_0 0 rfl rfl)
theorem dX1_subtract_1 : decode cX1_subtract 1 = .ok (.getfield 7, 3) := dk_180 0 7 (dk_at dksX1_subtract_0 1 rfl rfl)
theorem dX1_subtract_4 : decode cX1_subtract 4 = .ok (.aload_n 0, 1) := dk_42 (dk_at dksX1_subtract_0 4 rfl rfl)
theorem dX1_subtract_5 : decode cX1_subtract 5 = .ok (.getfield 15, 3) := dk_180 0 15 (dk_at dksX1_subtract_0 5 rfl rfl)
theorem dX1_subtract_8 : decode cX1_subtract 8 = .ok (.iload_n 2, 1) := dk_28 (dk_at dksX1_subtract_0 8 rfl rfl)
theorem dX1_subtract_9 : decode cX1_subtract 9 = .ok (.iconst 3, 1) := dk_6 (dk_at dksX1_subtract_0 9 rfl rfl)
theorem dX1_subtract_10 : decode cX1_subtract 10 = .ok (.iand, 1) := dk_126 (dk_at dksX1_subtract_0 10 rfl rfl)
theorem dX1_subtract_11 : decode cX1_subtract 11 = .ok (.aaload, 1) := dk_50 (dk_at dksX1_subtract_0 11 rfl rfl)
theorem dX1_subtract_12 : decode cX1_subtract 12 = .ok (.aload_n 0, 1) := dk_42 (dk_at dksX1_subtract_0 12 rfl rfl)
theorem dX1_subtract_13 : decode cX1_subtract 13 = .ok (.getfield 15, 3) := dk_180 0 15 (dk_at dksX1_subtract_0 13 rfl rfl)
theorem dX1_subtract_16 : decode cX1_subtract 16 = .ok (.iload_n 3, 1) := dk_29 (dk_at dksX1_subtract_0 16 rfl rfl)
theorem dX1_subtract_17 : decode cX1_subtract 17 = .ok (.iconst 3, 1) := dk_6 (dk_at dksX1_subtract_0 17 rfl rfl)
theorem dX1_subtract_18 : decode cX1_subtract 18 = .ok (.iand, 1) := dk_126 (dk_at dksX1_subtract_0 18 rfl rfl)
theorem dX1_subtract_19 : decode cX1_subtract 19 = .ok (.aaload, 1) := dk_50 (dk_at dksX1_subtract_0 19 rfl rfl)
theorem dX1_subtract_20 : decode cX1_subtract 20 = .ok (.aload_n 0, 1) := dk_42 (dk_at dksX1_subtract_0 20 rfl rfl)
theorem dX1_subtract_21 : decode cX1_subtract 21 = .ok (.getfield 15, 3) := dk_180 0 15 (dk_at dksX1_subtract_0 21 rfl rfl)
theorem dX1_subtract_24 : decode cX1_subtract 24 = .ok (.iload_n 1, 1) := dk_27 (dk_at dksX1_subtract_1 0 rfl rfl)
theorem dX1_subtract_25 : decode cX1_subtract 25 = .ok (.iconst 3, 1) := dk_6 (dk_at dksX1_subtract_1 1 rfl rfl)
theorem dX1_subtract_26 : decode cX1_subtract 26 = .ok (.iand, 1) := dk_126 (dk_at dksX1_subtract_1 2 rfl rfl)
theorem dX1_subtract_27 : decode cX1_subtract 27 = .ok (.aaload, 1) := dk_50 (dk_at dksX1_subtract_1 3 rfl rfl)
theorem dX1_subtract_28 : decode cX1_subtract 28 = .ok (.invokestatic 28, 3) := dk_184 0 28 (dk_at dksX1_subtract_1 4 rfl rfl)
theorem dX1_subtract_31 : decode cX1_subtract 31 = .ok (.ireturn, 1) := dk_172 (dk_at dksX1_subtract_1 7 rfl rfl)
abbrev cX1_multiply : ByteArray := prog_2_method_7_code
def yX1_multiply : MethodName := ⟨RX1, "multiply", "(II)V"⟩
def dkwX1_multiply_1 : List UInt8 := [184, 0, 31, 177]
abbrev dktX1_multiply_1 : List UInt8 := dkwX1_multiply_1 ++ []
def dkwX1_multiply_0 : List UInt8 := [42, 180, 0, 7, 42, 180, 0, 15, 27, 6, 126, 50, 42, 180, 0, 15, 28, 6, 126, 50, 42, 180, 0, 18]
abbrev dktX1_multiply_0 : List UInt8 := dkwX1_multiply_0 ++ dktX1_multiply_1
theorem dksX1_multiply_0 : cX1_multiply.data.toList.drop 0 = dktX1_multiply_0 := by decide +kernel
theorem dksX1_multiply_1 : cX1_multiply.data.toList.drop 24 = dktX1_multiply_1 := dk_seg dksX1_multiply_0 24 rfl rfl
theorem dX1_multiply_0 : decode cX1_multiply 0 = .ok (.aload_n 0, 1) := dk_42 (dk_at dksX1_multiply_0 0 rfl rfl)
theorem dX1_multiply_1 : decode cX1_multiply 1 = .ok (.getfield 7, 3) := dk_180 0 7 (dk_at dksX1_multiply_0 1 rfl rfl)
theorem dX1_multiply_4 : decode cX1_multiply 4 = .ok (.aload_n 0, 1) := dk_42 (dk_at dksX1_multiply_0 4 rfl rfl)
theorem dX1_multiply_5 : decode cX1_multiply 5 = .ok (.getfield 15, 3) := dk_180 0 15 (dk_at dksX1_multiply_0 5 rfl rfl)
theorem dX1_multiply_8 : decode cX1_multiply 8 = .ok (.iload_n 1, 1) := dk_27 (dk_at dksX1_multiply_0 8 rfl rfl)
theorem dX1_multiply_9 : decode cX1_multiply 9 = .ok (.iconst 3, 1) := dk_6 (dk_at dksX1_multiply_0 9 rfl rfl)
theorem dX1_multiply_10 : decode cX1_multiply 10 = .ok (.iand, 1) := dk_126 (dk_at dksX1_multiply_0 10 rfl rfl)
theorem dX1_multiply_11 : decode cX1_multiply 11 = .ok (.aaload, 1) := dk_50 (dk_at dksX1_multiply_0 11 rfl rfl)
theorem dX1_multiply_12 : decode cX1_multiply 12 = .ok (.aload_n 0, 1) := dk_42 (dk_at dksX1_multiply_0 12 rfl rfl)
theorem dX1_multiply_13 : decode cX1_multiply 13 = .ok (.getfield 15, 3) := dk_180 0 15 (dk_at dksX1_multiply_0 13 rfl rfl)
theorem dX1_multiply_16 : decode cX1_multiply 16 = .ok (.iload_n 2, 1) := dk_28 (dk_at dksX1_multiply_0 16 rfl rfl)
theorem dX1_multiply_17 : decode cX1_multiply 17 = .ok (.iconst 3, 1) := dk_6 (dk_at dksX1_multiply_0 17 rfl rfl)
theorem dX1_multiply_18 : decode cX1_multiply 18 = .ok (.iand, 1) := dk_126 (dk_at dksX1_multiply_0 18 rfl rfl)
theorem dX1_multiply_19 : decode cX1_multiply 19 = .ok (.aaload, 1) := dk_50 (dk_at dksX1_multiply_0 19 rfl rfl)
theorem dX1_multiply_20 : decode cX1_multiply 20 = .ok (.aload_n 0, 1) := dk_42 (dk_at dksX1_multiply_0 20 rfl rfl)
theorem dX1_multiply_21 : decode cX1_multiply 21 = .ok (.getfield 18, 3) := dk_180 0 18 (dk_at dksX1_multiply_0 21 rfl rfl)
theorem dX1_multiply_24 : decode cX1_multiply 24 = .ok (.invokestatic 31, 3) := dk_184 0 31 (dk_at dksX1_multiply_1 0 rfl rfl)
theorem dX1_multiply_27 : decode cX1_multiply 27 = .ok (.return_, 1) := dk_177 (dk_at dksX1_multiply_1 3 rfl rfl)
abbrev cX1_square : ByteArray := prog_2_method_8_code
def yX1_square : MethodName := ⟨RX1, "square", "(I)V"⟩
def dkwX1_square_0 : List UInt8 := [42, 180, 0, 7, 42, 180, 0, 15, 27, 6, 126, 50, 42, 180, 0, 18, 184, 0, 35, 177]
abbrev dktX1_square_0 : List UInt8 := dkwX1_square_0 ++ []
theorem dksX1_square_0 : cX1_square.data.toList.drop 0 = dktX1_square_0 := by decide +kernel
theorem dX1_square_0 : decode cX1_square 0 = .ok (.aload_n 0, 1) := dk_42 (dk_at dksX1_square_0 0 rfl rfl)
theorem dX1_square_1 : decode cX1_square 1 = .ok (.getfield 7, 3) := dk_180 0 7 (dk_at dksX1_square_0 1 rfl rfl)
theorem dX1_square_4 : decode cX1_square 4 = .ok (.aload_n 0, 1) := dk_42 (dk_at dksX1_square_0 4 rfl rfl)
theorem dX1_square_5 : decode cX1_square 5 = .ok (.getfield 15, 3) := dk_180 0 15 (dk_at dksX1_square_0 5 rfl rfl)
theorem dX1_square_8 : decode cX1_square 8 = .ok (.iload_n 1, 1) := dk_27 (dk_at dksX1_square_0 8 rfl rfl)
theorem dX1_square_9 : decode cX1_square 9 = .ok (.iconst 3, 1) := dk_6 (dk_at dksX1_square_0 9 rfl rfl)
theorem dX1_square_10 : decode cX1_square 10 = .ok (.iand, 1) := dk_126 (dk_at dksX1_square_0 10 rfl rfl)
theorem dX1_square_11 : decode cX1_square 11 = .ok (.aaload, 1) := dk_50 (dk_at dksX1_square_0 11 rfl rfl)
theorem dX1_square_12 : decode cX1_square 12 = .ok (.aload_n 0, 1) := dk_42 (dk_at dksX1_square_0 12 rfl rfl)
theorem dX1_square_13 : decode cX1_square 13 = .ok (.getfield 18, 3) := dk_180 0 18 (dk_at dksX1_square_0 13 rfl rfl)
theorem dX1_square_16 : decode cX1_square 16 = .ok (.invokestatic 35, 3) := dk_184 0 35 (dk_at dksX1_square_0 16 rfl rfl)
theorem dX1_square_19 : decode cX1_square 19 = .ok (.return_, 1) := dk_177 (dk_at dksX1_square_0 19 rfl rfl)
abbrev cX1_multiplyAdd : ByteArray := prog_2_method_9_code
def yX1_multiplyAdd : MethodName := ⟨RX1, "multiplyAdd", "(II)I"⟩
def dkwX1_multiplyAdd_1 : List UInt8 := [184, 0, 39, 172]
abbrev dktX1_multiplyAdd_1 : List UInt8 := dkwX1_multiplyAdd_1 ++ []
def dkwX1_multiplyAdd_0 : List UInt8 := [42, 180, 0, 7, 42, 180, 0, 15, 27, 6, 126, 50, 42, 180, 0, 15, 28, 6, 126, 50, 42, 180, 0, 18]
abbrev dktX1_multiplyAdd_0 : List UInt8 := dkwX1_multiplyAdd_0 ++ dktX1_multiplyAdd_1
theorem dksX1_multiplyAdd_0 : cX1_multiplyAdd.data.toList.drop 0 = dktX1_multiplyAdd_0 := by decide +kernel
theorem dksX1_multiplyAdd_1 : cX1_multiplyAdd.data.toList.drop 24 = dktX1_multiplyAdd_1 := dk_seg dksX1_multiplyAdd_0 24 rfl rfl
theorem dX1_multiplyAdd_0 : decode cX1_multiplyAdd 0 = .ok (.aload_n 0, 1) := dk_42 (dk_at dksX1_multiplyAdd_0 0 rfl rfl)
theorem dX1_multiplyAdd_1 : decode cX1_multiplyAdd 1 = .ok (.getfield 7, 3) := dk_180 0 7 (dk_at dksX1_multiplyAdd_0 1 rfl rfl)
theorem dX1_multiplyAdd_4 : decode cX1_multiplyAdd 4 = .ok (.aload_n 0, 1) := dk_42 (dk_at dksX1_multiplyAdd_0 4 rfl rfl)
theorem dX1_multiplyAdd_5 : decode cX1_multiplyAdd 5 = .ok (.getfield 15, 3) := dk_180 0 15 (dk_at dksX1_multiplyAdd_0 5 rfl rfl)
theorem dX1_multiplyAdd_8 : decode cX1_multiplyAdd 8 = .ok (.iload_n 1, 1) := dk_27 (dk_at dksX1_multiplyAdd_0 8 rfl rfl)
theorem dX1_multiplyAdd_9 : decode cX1_multiplyAdd 9 = .ok (.iconst 3, 1) := dk_6 (dk_at dksX1_multiplyAdd_0 9 rfl rfl)
theorem dX1_multiplyAdd_10 : decode cX1_multiplyAdd 10 = .ok (.iand, 1) := dk_126 (dk_at dksX1_multiplyAdd_0 10 rfl rfl)
theorem dX1_multiplyAdd_11 : decode cX1_multiplyAdd 11 = .ok (.aaload, 1) := dk_50 (dk_at dksX1_multiplyAdd_0 11 rfl rfl)
theorem dX1_multiplyAdd_12 : decode cX1_multiplyAdd 12 = .ok (.aload_n 0, 1) := dk_42 (dk_at dksX1_multiplyAdd_0 12 rfl rfl)
theorem dX1_multiplyAdd_13 : decode cX1_multiplyAdd 13 = .ok (.getfield 15, 3) := dk_180 0 15 (dk_at dksX1_multiplyAdd_0 13 rfl rfl)
theorem dX1_multiplyAdd_16 : decode cX1_multiplyAdd 16 = .ok (.iload_n 2, 1) := dk_28 (dk_at dksX1_multiplyAdd_0 16 rfl rfl)
theorem dX1_multiplyAdd_17 : decode cX1_multiplyAdd 17 = .ok (.iconst 3, 1) := dk_6 (dk_at dksX1_multiplyAdd_0 17 rfl rfl)
theorem dX1_multiplyAdd_18 : decode cX1_multiplyAdd 18 = .ok (.iand, 1) := dk_126 (dk_at dksX1_multiplyAdd_0 18 rfl rfl)
theorem dX1_multiplyAdd_19 : decode cX1_multiplyAdd 19 = .ok (.aaload, 1) := dk_50 (dk_at dksX1_multiplyAdd_0 19 rfl rfl)
theorem dX1_multiplyAdd_20 : decode cX1_multiplyAdd 20 = .ok (.aload_n 0, 1) := dk_42 (dk_at dksX1_multiplyAdd_0 20 rfl rfl)
theorem dX1_multiplyAdd_21 : decode cX1_multiplyAdd 21 = .ok (.getfield 18, 3) := dk_180 0 18 (dk_at dksX1_multiplyAdd_0 21 rfl rfl)
theorem dX1_multiplyAdd_24 : decode cX1_multiplyAdd 24 = .ok (.invokestatic 39, 3) := dk_184 0 39 (dk_at dksX1_multiplyAdd_1 0 rfl rfl)
theorem dX1_multiplyAdd_27 : decode cX1_multiplyAdd 27 = .ok (.ireturn, 1) := dk_172 (dk_at dksX1_multiplyAdd_1 3 rfl rfl)
abbrev cX1_up : ByteArray := prog_2_method_12_code
def yX1_up : MethodName := ⟨RX1, "up", "(II)I"⟩
def dkwX1_up_1 : List UInt8 := [184, 0, 47, 172]
abbrev dktX1_up_1 : List UInt8 := dkwX1_up_1 ++ []
def dkwX1_up_0 : List UInt8 := [42, 180, 0, 7, 42, 180, 0, 15, 27, 6, 126, 50, 4, 28, 18, 46, 126, 16, 31, 112, 96, 3]
abbrev dktX1_up_0 : List UInt8 := dkwX1_up_0 ++ dktX1_up_1
theorem dksX1_up_0 : cX1_up.data.toList.drop 0 = dktX1_up_0 := by decide +kernel
theorem dksX1_up_1 : cX1_up.data.toList.drop 22 = dktX1_up_1 := dk_seg dksX1_up_0 22 rfl rfl
theorem dX1_up_0 : decode cX1_up 0 = .ok (.aload_n 0, 1) := dk_42 (dk_at dksX1_up_0 0 rfl rfl)
theorem dX1_up_1 : decode cX1_up 1 = .ok (.getfield 7, 3) := dk_180 0 7 (dk_at dksX1_up_0 1 rfl rfl)
theorem dX1_up_4 : decode cX1_up 4 = .ok (.aload_n 0, 1) := dk_42 (dk_at dksX1_up_0 4 rfl rfl)
theorem dX1_up_5 : decode cX1_up 5 = .ok (.getfield 15, 3) := dk_180 0 15 (dk_at dksX1_up_0 5 rfl rfl)
theorem dX1_up_8 : decode cX1_up 8 = .ok (.iload_n 1, 1) := dk_27 (dk_at dksX1_up_0 8 rfl rfl)
theorem dX1_up_9 : decode cX1_up 9 = .ok (.iconst 3, 1) := dk_6 (dk_at dksX1_up_0 9 rfl rfl)
theorem dX1_up_10 : decode cX1_up 10 = .ok (.iand, 1) := dk_126 (dk_at dksX1_up_0 10 rfl rfl)
theorem dX1_up_11 : decode cX1_up 11 = .ok (.aaload, 1) := dk_50 (dk_at dksX1_up_0 11 rfl rfl)
theorem dX1_up_12 : decode cX1_up 12 = .ok (.iconst 1, 1) := dk_4 (dk_at dksX1_up_0 12 rfl rfl)
theorem dX1_up_13 : decode cX1_up 13 = .ok (.iload_n 2, 1) := dk_28 (dk_at dksX1_up_0 13 rfl rfl)
theorem dX1_up_14 : decode cX1_up 14 = .ok (.ldc 46, 2) := dk_18 46 (dk_at dksX1_up_0 14 rfl rfl)
theorem dX1_up_16 : decode cX1_up 16 = .ok (.iand, 1) := dk_126 (dk_at dksX1_up_0 16 rfl rfl)
theorem dX1_up_17 : decode cX1_up 17 = .ok (.bipush 31, 2) := dk_16 31 (dk_at dksX1_up_0 17 rfl rfl)
theorem dX1_up_19 : decode cX1_up 19 = .ok (.irem, 1) := dk_112 (dk_at dksX1_up_0 19 rfl rfl)
theorem dX1_up_20 : decode cX1_up 20 = .ok (.iadd, 1) := dk_96 (dk_at dksX1_up_0 20 rfl rfl)
theorem dX1_up_21 : decode cX1_up 21 = .ok (.iconst 0, 1) := dk_3 (dk_at dksX1_up_0 21 rfl rfl)
theorem dX1_up_22 : decode cX1_up 22 = .ok (.invokestatic 47, 3) := dk_184 0 47 (dk_at dksX1_up_1 0 rfl rfl)
theorem dX1_up_25 : decode cX1_up 25 = .ok (.ireturn, 1) := dk_172 (dk_at dksX1_up_1 3 rfl rfl)
abbrev cX1_down : ByteArray := prog_2_method_13_code
def yX1_down : MethodName := ⟨RX1, "down", "(II)I"⟩
def dkwX1_down_1 : List UInt8 := [184, 0, 51, 172]
abbrev dktX1_down_1 : List UInt8 := dkwX1_down_1 ++ []
def dkwX1_down_0 : List UInt8 := [42, 180, 0, 7, 42, 180, 0, 15, 27, 6, 126, 50, 4, 28, 18, 46, 126, 16, 31, 112, 96, 3]
abbrev dktX1_down_0 : List UInt8 := dkwX1_down_0 ++ dktX1_down_1
theorem dksX1_down_0 : cX1_down.data.toList.drop 0 = dktX1_down_0 := by decide +kernel
theorem dksX1_down_1 : cX1_down.data.toList.drop 22 = dktX1_down_1 := dk_seg dksX1_down_0 22 rfl rfl
theorem dX1_down_0 : decode cX1_down 0 = .ok (.aload_n 0, 1) := dk_42 (dk_at dksX1_down_0 0 rfl rfl)
theorem dX1_down_1 : decode cX1_down 1 = .ok (.getfield 7, 3) := dk_180 0 7 (dk_at dksX1_down_0 1 rfl rfl)
theorem dX1_down_4 : decode cX1_down 4 = .ok (.aload_n 0, 1) := dk_42 (dk_at dksX1_down_0 4 rfl rfl)
theorem dX1_down_5 : decode cX1_down 5 = .ok (.getfield 15, 3) := dk_180 0 15 (dk_at dksX1_down_0 5 rfl rfl)
theorem dX1_down_8 : decode cX1_down 8 = .ok (.iload_n 1, 1) := dk_27 (dk_at dksX1_down_0 8 rfl rfl)
theorem dX1_down_9 : decode cX1_down 9 = .ok (.iconst 3, 1) := dk_6 (dk_at dksX1_down_0 9 rfl rfl)
theorem dX1_down_10 : decode cX1_down 10 = .ok (.iand, 1) := dk_126 (dk_at dksX1_down_0 10 rfl rfl)
theorem dX1_down_11 : decode cX1_down 11 = .ok (.aaload, 1) := dk_50 (dk_at dksX1_down_0 11 rfl rfl)
theorem dX1_down_12 : decode cX1_down 12 = .ok (.iconst 1, 1) := dk_4 (dk_at dksX1_down_0 12 rfl rfl)
theorem dX1_down_13 : decode cX1_down 13 = .ok (.iload_n 2, 1) := dk_28 (dk_at dksX1_down_0 13 rfl rfl)
theorem dX1_down_14 : decode cX1_down 14 = .ok (.ldc 46, 2) := dk_18 46 (dk_at dksX1_down_0 14 rfl rfl)
theorem dX1_down_16 : decode cX1_down 16 = .ok (.iand, 1) := dk_126 (dk_at dksX1_down_0 16 rfl rfl)
theorem dX1_down_17 : decode cX1_down 17 = .ok (.bipush 31, 2) := dk_16 31 (dk_at dksX1_down_0 17 rfl rfl)
theorem dX1_down_19 : decode cX1_down 19 = .ok (.irem, 1) := dk_112 (dk_at dksX1_down_0 19 rfl rfl)
theorem dX1_down_20 : decode cX1_down 20 = .ok (.iadd, 1) := dk_96 (dk_at dksX1_down_0 20 rfl rfl)
theorem dX1_down_21 : decode cX1_down 21 = .ok (.iconst 0, 1) := dk_3 (dk_at dksX1_down_0 21 rfl rfl)
theorem dX1_down_22 : decode cX1_down 22 = .ok (.invokestatic 51, 3) := dk_184 0 51 (dk_at dksX1_down_1 0 rfl rfl)
theorem dX1_down_25 : decode cX1_down 25 = .ok (.ireturn, 1) := dk_172 (dk_at dksX1_down_1 3 rfl rfl)
abbrev cX1_more : ByteArray := prog_2_method_14_code
def yX1_more : MethodName := ⟨RX1, "more", "(I)I"⟩
def dkwX1_more_0 : List UInt8 := [42, 180, 0, 7, 42, 180, 0, 15, 27, 6, 126, 50, 184, 0, 54, 172]
abbrev dktX1_more_0 : List UInt8 := dkwX1_more_0 ++ []
theorem dksX1_more_0 : cX1_more.data.toList.drop 0 = dktX1_more_0 := by decide +kernel
theorem dX1_more_0 : decode cX1_more 0 = .ok (.aload_n 0, 1) := dk_42 (dk_at dksX1_more_0 0 rfl rfl)
theorem dX1_more_1 : decode cX1_more 1 = .ok (.getfield 7, 3) := dk_180 0 7 (dk_at dksX1_more_0 1 rfl rfl)
theorem dX1_more_4 : decode cX1_more 4 = .ok (.aload_n 0, 1) := dk_42 (dk_at dksX1_more_0 4 rfl rfl)
theorem dX1_more_5 : decode cX1_more 5 = .ok (.getfield 15, 3) := dk_180 0 15 (dk_at dksX1_more_0 5 rfl rfl)
theorem dX1_more_8 : decode cX1_more 8 = .ok (.iload_n 1, 1) := dk_27 (dk_at dksX1_more_0 8 rfl rfl)
theorem dX1_more_9 : decode cX1_more 9 = .ok (.iconst 3, 1) := dk_6 (dk_at dksX1_more_0 9 rfl rfl)
theorem dX1_more_10 : decode cX1_more 10 = .ok (.iand, 1) := dk_126 (dk_at dksX1_more_0 10 rfl rfl)
theorem dX1_more_11 : decode cX1_more 11 = .ok (.aaload, 1) := dk_50 (dk_at dksX1_more_0 11 rfl rfl)
theorem dX1_more_12 : decode cX1_more 12 = .ok (.invokestatic 54, 3) := dk_184 0 54 (dk_at dksX1_more_0 12 rfl rfl)
theorem dX1_more_15 : decode cX1_more 15 = .ok (.ireturn, 1) := dk_172 (dk_at dksX1_more_0 15 rfl rfl)
abbrev cX1_less : ByteArray := prog_2_method_15_code
def yX1_less : MethodName := ⟨RX1, "less", "(I)I"⟩
def dkwX1_less_0 : List UInt8 := [42, 180, 0, 7, 42, 180, 0, 15, 27, 6, 126, 50, 184, 0, 58, 172]
abbrev dktX1_less_0 : List UInt8 := dkwX1_less_0 ++ []
theorem dksX1_less_0 : cX1_less.data.toList.drop 0 = dktX1_less_0 := by decide +kernel
theorem dX1_less_0 : decode cX1_less 0 = .ok (.aload_n 0, 1) := dk_42 (dk_at dksX1_less_0 0 rfl rfl)
theorem dX1_less_1 : decode cX1_less 1 = .ok (.getfield 7, 3) := dk_180 0 7 (dk_at dksX1_less_0 1 rfl rfl)
theorem dX1_less_4 : decode cX1_less 4 = .ok (.aload_n 0, 1) := dk_42 (dk_at dksX1_less_0 4 rfl rfl)
theorem dX1_less_5 : decode cX1_less 5 = .ok (.getfield 15, 3) := dk_180 0 15 (dk_at dksX1_less_0 5 rfl rfl)
theorem dX1_less_8 : decode cX1_less 8 = .ok (.iload_n 1, 1) := dk_27 (dk_at dksX1_less_0 8 rfl rfl)
theorem dX1_less_9 : decode cX1_less 9 = .ok (.iconst 3, 1) := dk_6 (dk_at dksX1_less_0 9 rfl rfl)
theorem dX1_less_10 : decode cX1_less 10 = .ok (.iand, 1) := dk_126 (dk_at dksX1_less_0 10 rfl rfl)
theorem dX1_less_11 : decode cX1_less 11 = .ok (.aaload, 1) := dk_50 (dk_at dksX1_less_0 11 rfl rfl)
theorem dX1_less_12 : decode cX1_less 12 = .ok (.invokestatic 58, 3) := dk_184 0 58 (dk_at dksX1_less_0 12 rfl rfl)
theorem dX1_less_15 : decode cX1_less 15 = .ok (.ireturn, 1) := dk_172 (dk_at dksX1_less_0 15 rfl rfl)
abbrev cX1_atLeast : ByteArray := prog_2_method_16_code
def yX1_atLeast : MethodName := ⟨RX1, "atLeast", "(II)Z"⟩
def dkwX1_atLeast_0 : List UInt8 := [42, 180, 0, 7, 42, 180, 0, 15, 27, 6, 126, 50, 42, 180, 0, 15, 28, 6, 126, 50, 184, 0, 61, 172]
abbrev dktX1_atLeast_0 : List UInt8 := dkwX1_atLeast_0 ++ []
theorem dksX1_atLeast_0 : cX1_atLeast.data.toList.drop 0 = dktX1_atLeast_0 := by decide +kernel
theorem dX1_atLeast_0 : decode cX1_atLeast 0 = .ok (.aload_n 0, 1) := dk_42 (dk_at dksX1_atLeast_0 0 rfl rfl)
theorem dX1_atLeast_1 : decode cX1_atLeast 1 = .ok (.getfield 7, 3) := dk_180 0 7 (dk_at dksX1_atLeast_0 1 rfl rfl)
theorem dX1_atLeast_4 : decode cX1_atLeast 4 = .ok (.aload_n 0, 1) := dk_42 (dk_at dksX1_atLeast_0 4 rfl rfl)
theorem dX1_atLeast_5 : decode cX1_atLeast 5 = .ok (.getfield 15, 3) := dk_180 0 15 (dk_at dksX1_atLeast_0 5 rfl rfl)
theorem dX1_atLeast_8 : decode cX1_atLeast 8 = .ok (.iload_n 1, 1) := dk_27 (dk_at dksX1_atLeast_0 8 rfl rfl)
theorem dX1_atLeast_9 : decode cX1_atLeast 9 = .ok (.iconst 3, 1) := dk_6 (dk_at dksX1_atLeast_0 9 rfl rfl)
theorem dX1_atLeast_10 : decode cX1_atLeast 10 = .ok (.iand, 1) := dk_126 (dk_at dksX1_atLeast_0 10 rfl rfl)
theorem dX1_atLeast_11 : decode cX1_atLeast 11 = .ok (.aaload, 1) := dk_50 (dk_at dksX1_atLeast_0 11 rfl rfl)
theorem dX1_atLeast_12 : decode cX1_atLeast 12 = .ok (.aload_n 0, 1) := dk_42 (dk_at dksX1_atLeast_0 12 rfl rfl)
theorem dX1_atLeast_13 : decode cX1_atLeast 13 = .ok (.getfield 15, 3) := dk_180 0 15 (dk_at dksX1_atLeast_0 13 rfl rfl)
theorem dX1_atLeast_16 : decode cX1_atLeast 16 = .ok (.iload_n 2, 1) := dk_28 (dk_at dksX1_atLeast_0 16 rfl rfl)
theorem dX1_atLeast_17 : decode cX1_atLeast 17 = .ok (.iconst 3, 1) := dk_6 (dk_at dksX1_atLeast_0 17 rfl rfl)
theorem dX1_atLeast_18 : decode cX1_atLeast 18 = .ok (.iand, 1) := dk_126 (dk_at dksX1_atLeast_0 18 rfl rfl)
theorem dX1_atLeast_19 : decode cX1_atLeast 19 = .ok (.aaload, 1) := dk_50 (dk_at dksX1_atLeast_0 19 rfl rfl)
theorem dX1_atLeast_20 : decode cX1_atLeast 20 = .ok (.invokestatic 61, 3) := dk_184 0 61 (dk_at dksX1_atLeast_0 20 rfl rfl)
theorem dX1_atLeast_23 : decode cX1_atLeast 23 = .ok (.ireturn, 1) := dk_172 (dk_at dksX1_atLeast_0 23 rfl rfl)
abbrev cX1_wide : ByteArray := prog_2_method_17_code
def yX1_wide : MethodName := ⟨RX1, "wide", "(I)I"⟩
def dkwX1_wide_0 : List UInt8 := [42, 180, 0, 18, 27, 16, 31, 126, 5, 42, 180, 0, 7, 104, 112, 46, 172]
abbrev dktX1_wide_0 : List UInt8 := dkwX1_wide_0 ++ []
theorem dksX1_wide_0 : cX1_wide.data.toList.drop 0 = dktX1_wide_0 := by decide +kernel
theorem dX1_wide_0 : decode cX1_wide 0 = .ok (.aload_n 0, 1) := dk_42 (dk_at dksX1_wide_0 0 rfl rfl)
theorem dX1_wide_1 : decode cX1_wide 1 = .ok (.getfield 18, 3) := dk_180 0 18 (dk_at dksX1_wide_0 1 rfl rfl)
theorem dX1_wide_4 : decode cX1_wide 4 = .ok (.iload_n 1, 1) := dk_27 (dk_at dksX1_wide_0 4 rfl rfl)
theorem dX1_wide_5 : decode cX1_wide 5 = .ok (.bipush 31, 2) := dk_16 31 (dk_at dksX1_wide_0 5 rfl rfl)
theorem dX1_wide_7 : decode cX1_wide 7 = .ok (.iand, 1) := dk_126 (dk_at dksX1_wide_0 7 rfl rfl)
theorem dX1_wide_8 : decode cX1_wide 8 = .ok (.iconst 2, 1) := dk_5 (dk_at dksX1_wide_0 8 rfl rfl)
theorem dX1_wide_9 : decode cX1_wide 9 = .ok (.aload_n 0, 1) := dk_42 (dk_at dksX1_wide_0 9 rfl rfl)
theorem dX1_wide_10 : decode cX1_wide 10 = .ok (.getfield 7, 3) := dk_180 0 7 (dk_at dksX1_wide_0 10 rfl rfl)
theorem dX1_wide_13 : decode cX1_wide 13 = .ok (.imul, 1) := dk_104 (dk_at dksX1_wide_0 13 rfl rfl)
theorem dX1_wide_14 : decode cX1_wide 14 = .ok (.irem, 1) := dk_112 (dk_at dksX1_wide_0 14 rfl rfl)
theorem dX1_wide_15 : decode cX1_wide 15 = .ok (.iaload, 1) := dk_46 (dk_at dksX1_wide_0 15 rfl rfl)
theorem dX1_wide_16 : decode cX1_wide 16 = .ok (.ireturn, 1) := dk_172 (dk_at dksX1_wide_0 16 rfl rfl)
abbrev cX1_init : ByteArray := prog_2_method_1_code
def yX1_init : MethodName := ⟨RX1, "<init>", "()V"⟩
def dkwX1_init_1 : List UInt8 := [181, 0, 18, 177]
abbrev dktX1_init_1 : List UInt8 := dkwX1_init_1 ++ []
def dkwX1_init_0 : List UInt8 := [42, 183, 0, 1, 42, 7, 181, 0, 7, 42, 7, 7, 197, 0, 13, 2, 181, 0, 15, 42, 16, 8, 188, 10]
abbrev dktX1_init_0 : List UInt8 := dkwX1_init_0 ++ dktX1_init_1
theorem dksX1_init_0 : cX1_init.data.toList.drop 0 = dktX1_init_0 := by decide +kernel
theorem dksX1_init_1 : cX1_init.data.toList.drop 24 = dktX1_init_1 := dk_seg dksX1_init_0 24 rfl rfl
theorem dX1_init_0 : decode cX1_init 0 = .ok (.aload_n 0, 1) := dk_42 (dk_at dksX1_init_0 0 rfl rfl)
theorem dX1_init_1 : decode cX1_init 1 = .ok (.invokespecial 1, 3) := dk_183 0 1 (dk_at dksX1_init_0 1 rfl rfl)
theorem dX1_init_4 : decode cX1_init 4 = .ok (.aload_n 0, 1) := dk_42 (dk_at dksX1_init_0 4 rfl rfl)
theorem dX1_init_5 : decode cX1_init 5 = .ok (.iconst 4, 1) := dk_7 (dk_at dksX1_init_0 5 rfl rfl)
theorem dX1_init_6 : decode cX1_init 6 = .ok (.putfield 7, 3) := dk_181 0 7 (dk_at dksX1_init_0 6 rfl rfl)
theorem dX1_init_9 : decode cX1_init 9 = .ok (.aload_n 0, 1) := dk_42 (dk_at dksX1_init_0 9 rfl rfl)
theorem dX1_init_10 : decode cX1_init 10 = .ok (.iconst 4, 1) := dk_7 (dk_at dksX1_init_0 10 rfl rfl)
theorem dX1_init_11 : decode cX1_init 11 = .ok (.iconst 4, 1) := dk_7 (dk_at dksX1_init_0 11 rfl rfl)
theorem dX1_init_12 : decode cX1_init 12 = .ok (.multianewarray 13 2, 4) := by decide +kernel
theorem dX1_init_16 : decode cX1_init 16 = .ok (.putfield 15, 3) := dk_181 0 15 (dk_at dksX1_init_0 16 rfl rfl)
theorem dX1_init_19 : decode cX1_init 19 = .ok (.aload_n 0, 1) := dk_42 (dk_at dksX1_init_0 19 rfl rfl)
theorem dX1_init_20 : decode cX1_init 20 = .ok (.bipush 8, 2) := dk_16 8 (dk_at dksX1_init_0 20 rfl rfl)
theorem dX1_init_22 : decode cX1_init 22 = .ok (.newarray .int, 2) := dk_188_10 (dk_at dksX1_init_0 22 rfl rfl)
theorem dX1_init_24 : decode cX1_init 24 = .ok (.putfield 18, 3) := dk_181 0 18 (dk_at dksX1_init_1 0 rfl rfl)
theorem dX1_init_27 : decode cX1_init 27 = .ok (.return_, 1) := dk_177 (dk_at dksX1_init_1 3 rfl rfl)
abbrev cX1_width : ByteArray := prog_2_method_2_code
def yX1_width : MethodName := ⟨RX1, "width", "(I)V"⟩
def dkwX1_width_1 : List UInt8 := [5, 42, 180, 0, 7, 104, 188, 10, 181, 0, 18, 177]
abbrev dktX1_width_1 : List UInt8 := dkwX1_width_1 ++ []
def dkwX1_width_0 : List UInt8 := [42, 4, 27, 16, 15, 126, 96, 181, 0, 7, 42, 7, 42, 180, 0, 7, 197, 0, 13, 2, 181, 0, 15, 42]
abbrev dktX1_width_0 : List UInt8 := dkwX1_width_0 ++ dktX1_width_1
theorem dksX1_width_0 : cX1_width.data.toList.drop 0 = dktX1_width_0 := by decide +kernel
theorem dksX1_width_1 : cX1_width.data.toList.drop 24 = dktX1_width_1 := dk_seg dksX1_width_0 24 rfl rfl
theorem dX1_width_0 : decode cX1_width 0 = .ok (.aload_n 0, 1) := dk_42 (dk_at dksX1_width_0 0 rfl rfl)
theorem dX1_width_1 : decode cX1_width 1 = .ok (.iconst 1, 1) := dk_4 (dk_at dksX1_width_0 1 rfl rfl)
theorem dX1_width_2 : decode cX1_width 2 = .ok (.iload_n 1, 1) := dk_27 (dk_at dksX1_width_0 2 rfl rfl)
theorem dX1_width_3 : decode cX1_width 3 = .ok (.bipush 15, 2) := dk_16 15 (dk_at dksX1_width_0 3 rfl rfl)
theorem dX1_width_5 : decode cX1_width 5 = .ok (.iand, 1) := dk_126 (dk_at dksX1_width_0 5 rfl rfl)
theorem dX1_width_6 : decode cX1_width 6 = .ok (.iadd, 1) := dk_96 (dk_at dksX1_width_0 6 rfl rfl)
theorem dX1_width_7 : decode cX1_width 7 = .ok (.putfield 7, 3) := dk_181 0 7 (dk_at dksX1_width_0 7 rfl rfl)
theorem dX1_width_10 : decode cX1_width 10 = .ok (.aload_n 0, 1) := dk_42 (dk_at dksX1_width_0 10 rfl rfl)
theorem dX1_width_11 : decode cX1_width 11 = .ok (.iconst 4, 1) := dk_7 (dk_at dksX1_width_0 11 rfl rfl)
theorem dX1_width_12 : decode cX1_width 12 = .ok (.aload_n 0, 1) := dk_42 (dk_at dksX1_width_0 12 rfl rfl)
theorem dX1_width_13 : decode cX1_width 13 = .ok (.getfield 7, 3) := dk_180 0 7 (dk_at dksX1_width_0 13 rfl rfl)
theorem dX1_width_16 : decode cX1_width 16 = .ok (.multianewarray 13 2, 4) := by decide +kernel
theorem dX1_width_20 : decode cX1_width 20 = .ok (.putfield 15, 3) := dk_181 0 15 (dk_at dksX1_width_0 20 rfl rfl)
theorem dX1_width_23 : decode cX1_width 23 = .ok (.aload_n 0, 1) := dk_42 (dk_at dksX1_width_0 23 rfl rfl)
theorem dX1_width_24 : decode cX1_width 24 = .ok (.iconst 2, 1) := dk_5 (dk_at dksX1_width_1 0 rfl rfl)
theorem dX1_width_25 : decode cX1_width 25 = .ok (.aload_n 0, 1) := dk_42 (dk_at dksX1_width_1 1 rfl rfl)
theorem dX1_width_26 : decode cX1_width 26 = .ok (.getfield 7, 3) := dk_180 0 7 (dk_at dksX1_width_1 2 rfl rfl)
theorem dX1_width_29 : decode cX1_width 29 = .ok (.imul, 1) := dk_104 (dk_at dksX1_width_1 5 rfl rfl)
theorem dX1_width_30 : decode cX1_width 30 = .ok (.newarray .int, 2) := dk_188_10 (dk_at dksX1_width_1 6 rfl rfl)
theorem dX1_width_32 : decode cX1_width 32 = .ok (.putfield 18, 3) := dk_181 0 18 (dk_at dksX1_width_1 8 rfl rfl)
theorem dX1_width_35 : decode cX1_width 35 = .ok (.return_, 1) := dk_177 (dk_at dksX1_width_1 11 rfl rfl)
abbrev cX1_put : ByteArray := prog_2_method_3_code
def yX1_put : MethodName := ⟨RX1, "put", "(IIIII)V"⟩
def dkwX1_put_2 : List UInt8 := [42, 180, 0, 7, 112, 21, 5, 79, 177]
abbrev dktX1_put_2 : List UInt8 := dkwX1_put_2 ++ []
def dkwX1_put_1 : List UInt8 := [21, 6, 29, 79, 25, 7, 21, 6, 4, 96, 42, 180, 0, 7, 112, 21, 4, 79, 25, 7, 21, 6, 5, 96]
abbrev dktX1_put_1 : List UInt8 := dkwX1_put_1 ++ dktX1_put_2
def dkwX1_put_0 : List UInt8 := [28, 16, 15, 126, 42, 180, 0, 7, 112, 54, 6, 42, 180, 0, 15, 27, 6, 126, 50, 58, 7, 25, 7]
abbrev dktX1_put_0 : List UInt8 := dkwX1_put_0 ++ dktX1_put_1
theorem dksX1_put_0 : cX1_put.data.toList.drop 0 = dktX1_put_0 := by decide +kernel
theorem dksX1_put_1 : cX1_put.data.toList.drop 23 = dktX1_put_1 := dk_seg dksX1_put_0 23 rfl rfl
theorem dksX1_put_2 : cX1_put.data.toList.drop 47 = dktX1_put_2 := dk_seg dksX1_put_1 24 rfl rfl
theorem dX1_put_0 : decode cX1_put 0 = .ok (.iload_n 2, 1) := dk_28 (dk_at dksX1_put_0 0 rfl rfl)
theorem dX1_put_1 : decode cX1_put 1 = .ok (.bipush 15, 2) := dk_16 15 (dk_at dksX1_put_0 1 rfl rfl)
theorem dX1_put_3 : decode cX1_put 3 = .ok (.iand, 1) := dk_126 (dk_at dksX1_put_0 3 rfl rfl)
theorem dX1_put_4 : decode cX1_put 4 = .ok (.aload_n 0, 1) := dk_42 (dk_at dksX1_put_0 4 rfl rfl)
theorem dX1_put_5 : decode cX1_put 5 = .ok (.getfield 7, 3) := dk_180 0 7 (dk_at dksX1_put_0 5 rfl rfl)
theorem dX1_put_8 : decode cX1_put 8 = .ok (.irem, 1) := dk_112 (dk_at dksX1_put_0 8 rfl rfl)
theorem dX1_put_9 : decode cX1_put 9 = .ok (.istore 6, 2) := dk_54 6 (dk_at dksX1_put_0 9 rfl rfl)
theorem dX1_put_11 : decode cX1_put 11 = .ok (.aload_n 0, 1) := dk_42 (dk_at dksX1_put_0 11 rfl rfl)
theorem dX1_put_12 : decode cX1_put 12 = .ok (.getfield 15, 3) := dk_180 0 15 (dk_at dksX1_put_0 12 rfl rfl)
theorem dX1_put_15 : decode cX1_put 15 = .ok (.iload_n 1, 1) := dk_27 (dk_at dksX1_put_0 15 rfl rfl)
theorem dX1_put_16 : decode cX1_put 16 = .ok (.iconst 3, 1) := dk_6 (dk_at dksX1_put_0 16 rfl rfl)
theorem dX1_put_17 : decode cX1_put 17 = .ok (.iand, 1) := dk_126 (dk_at dksX1_put_0 17 rfl rfl)
theorem dX1_put_18 : decode cX1_put 18 = .ok (.aaload, 1) := dk_50 (dk_at dksX1_put_0 18 rfl rfl)
theorem dX1_put_19 : decode cX1_put 19 = .ok (.astore 7, 2) := dk_58 7 (dk_at dksX1_put_0 19 rfl rfl)
theorem dX1_put_21 : decode cX1_put 21 = .ok (.aload 7, 2) := dk_25 7 (dk_at dksX1_put_0 21 rfl rfl)
theorem dX1_put_23 : decode cX1_put 23 = .ok (.iload 6, 2) := dk_21 6 (dk_at dksX1_put_1 0 rfl rfl)
theorem dX1_put_25 : decode cX1_put 25 = .ok (.iload_n 3, 1) := dk_29 (dk_at dksX1_put_1 2 rfl rfl)
theorem dX1_put_26 : decode cX1_put 26 = .ok (.iastore, 1) := dk_79 (dk_at dksX1_put_1 3 rfl rfl)
theorem dX1_put_27 : decode cX1_put 27 = .ok (.aload 7, 2) := dk_25 7 (dk_at dksX1_put_1 4 rfl rfl)
theorem dX1_put_29 : decode cX1_put 29 = .ok (.iload 6, 2) := dk_21 6 (dk_at dksX1_put_1 6 rfl rfl)
theorem dX1_put_31 : decode cX1_put 31 = .ok (.iconst 1, 1) := dk_4 (dk_at dksX1_put_1 8 rfl rfl)
theorem dX1_put_32 : decode cX1_put 32 = .ok (.iadd, 1) := dk_96 (dk_at dksX1_put_1 9 rfl rfl)
theorem dX1_put_33 : decode cX1_put 33 = .ok (.aload_n 0, 1) := dk_42 (dk_at dksX1_put_1 10 rfl rfl)
theorem dX1_put_34 : decode cX1_put 34 = .ok (.getfield 7, 3) := dk_180 0 7 (dk_at dksX1_put_1 11 rfl rfl)
theorem dX1_put_37 : decode cX1_put 37 = .ok (.irem, 1) := dk_112 (dk_at dksX1_put_1 14 rfl rfl)
theorem dX1_put_38 : decode cX1_put 38 = .ok (.iload 4, 2) := dk_21 4 (dk_at dksX1_put_1 15 rfl rfl)
theorem dX1_put_40 : decode cX1_put 40 = .ok (.iastore, 1) := dk_79 (dk_at dksX1_put_1 17 rfl rfl)
theorem dX1_put_41 : decode cX1_put 41 = .ok (.aload 7, 2) := dk_25 7 (dk_at dksX1_put_1 18 rfl rfl)
theorem dX1_put_43 : decode cX1_put 43 = .ok (.iload 6, 2) := dk_21 6 (dk_at dksX1_put_1 20 rfl rfl)
theorem dX1_put_45 : decode cX1_put 45 = .ok (.iconst 2, 1) := dk_5 (dk_at dksX1_put_1 22 rfl rfl)
theorem dX1_put_46 : decode cX1_put 46 = .ok (.iadd, 1) := dk_96 (dk_at dksX1_put_1 23 rfl rfl)
theorem dX1_put_47 : decode cX1_put 47 = .ok (.aload_n 0, 1) := dk_42 (dk_at dksX1_put_2 0 rfl rfl)
theorem dX1_put_48 : decode cX1_put 48 = .ok (.getfield 7, 3) := dk_180 0 7 (dk_at dksX1_put_2 1 rfl rfl)
theorem dX1_put_51 : decode cX1_put 51 = .ok (.irem, 1) := dk_112 (dk_at dksX1_put_2 4 rfl rfl)
theorem dX1_put_52 : decode cX1_put 52 = .ok (.iload 5, 2) := dk_21 5 (dk_at dksX1_put_2 5 rfl rfl)
theorem dX1_put_54 : decode cX1_put 54 = .ok (.iastore, 1) := dk_79 (dk_at dksX1_put_2 7 rfl rfl)
theorem dX1_put_55 : decode cX1_put 55 = .ok (.return_, 1) := dk_177 (dk_at dksX1_put_2 8 rfl rfl)
abbrev cX1_half : ByteArray := prog_2_method_11_code
def yX1_half : MethodName := ⟨RX1, "half", "(II)V"⟩
def dkwX1_half_1 : List UInt8 := [42, 180, 0, 18, 28, 4, 126, 42, 180, 0, 7, 104, 21, 4, 96, 46, 79, 132, 4, 1, 167, 255, 224, 177]
abbrev dktX1_half_1 : List UInt8 := dkwX1_half_1 ++ []
def dkwX1_half_0 : List UInt8 := [42, 180, 0, 15, 27, 6, 126, 50, 78, 3, 54, 4, 21, 4, 42, 180, 0, 7, 162, 0, 29, 45, 21, 4]
abbrev dktX1_half_0 : List UInt8 := dkwX1_half_0 ++ dktX1_half_1
theorem dksX1_half_0 : cX1_half.data.toList.drop 0 = dktX1_half_0 := by decide +kernel
theorem dksX1_half_1 : cX1_half.data.toList.drop 24 = dktX1_half_1 := dk_seg dksX1_half_0 24 rfl rfl
theorem dX1_half_0 : decode cX1_half 0 = .ok (.aload_n 0, 1) := dk_42 (dk_at dksX1_half_0 0 rfl rfl)
theorem dX1_half_1 : decode cX1_half 1 = .ok (.getfield 15, 3) := dk_180 0 15 (dk_at dksX1_half_0 1 rfl rfl)
theorem dX1_half_4 : decode cX1_half 4 = .ok (.iload_n 1, 1) := dk_27 (dk_at dksX1_half_0 4 rfl rfl)
theorem dX1_half_5 : decode cX1_half 5 = .ok (.iconst 3, 1) := dk_6 (dk_at dksX1_half_0 5 rfl rfl)
theorem dX1_half_6 : decode cX1_half 6 = .ok (.iand, 1) := dk_126 (dk_at dksX1_half_0 6 rfl rfl)
theorem dX1_half_7 : decode cX1_half 7 = .ok (.aaload, 1) := dk_50 (dk_at dksX1_half_0 7 rfl rfl)
theorem dX1_half_8 : decode cX1_half 8 = .ok (.astore_n 3, 1) := dk_78 (dk_at dksX1_half_0 8 rfl rfl)
theorem dX1_half_9 : decode cX1_half 9 = .ok (.iconst 0, 1) := dk_3 (dk_at dksX1_half_0 9 rfl rfl)
theorem dX1_half_10 : decode cX1_half 10 = .ok (.istore 4, 2) := dk_54 4 (dk_at dksX1_half_0 10 rfl rfl)
theorem dX1_half_12 : decode cX1_half 12 = .ok (.iload 4, 2) := dk_21 4 (dk_at dksX1_half_0 12 rfl rfl)
theorem dX1_half_14 : decode cX1_half 14 = .ok (.aload_n 0, 1) := dk_42 (dk_at dksX1_half_0 14 rfl rfl)
theorem dX1_half_15 : decode cX1_half 15 = .ok (.getfield 7, 3) := dk_180 0 7 (dk_at dksX1_half_0 15 rfl rfl)
theorem dX1_half_18 : decode cX1_half 18 = .ok (.if_icmp .ge 29, 3) := dk_162 0 29 (dk_at dksX1_half_0 18 rfl rfl)
theorem dX1_half_21 : decode cX1_half 21 = .ok (.aload_n 3, 1) := dk_45 (dk_at dksX1_half_0 21 rfl rfl)
theorem dX1_half_22 : decode cX1_half 22 = .ok (.iload 4, 2) := dk_21 4 (dk_at dksX1_half_0 22 rfl rfl)
theorem dX1_half_24 : decode cX1_half 24 = .ok (.aload_n 0, 1) := dk_42 (dk_at dksX1_half_1 0 rfl rfl)
theorem dX1_half_25 : decode cX1_half 25 = .ok (.getfield 18, 3) := dk_180 0 18 (dk_at dksX1_half_1 1 rfl rfl)
theorem dX1_half_28 : decode cX1_half 28 = .ok (.iload_n 2, 1) := dk_28 (dk_at dksX1_half_1 4 rfl rfl)
theorem dX1_half_29 : decode cX1_half 29 = .ok (.iconst 1, 1) := dk_4 (dk_at dksX1_half_1 5 rfl rfl)
theorem dX1_half_30 : decode cX1_half 30 = .ok (.iand, 1) := dk_126 (dk_at dksX1_half_1 6 rfl rfl)
theorem dX1_half_31 : decode cX1_half 31 = .ok (.aload_n 0, 1) := dk_42 (dk_at dksX1_half_1 7 rfl rfl)
theorem dX1_half_32 : decode cX1_half 32 = .ok (.getfield 7, 3) := dk_180 0 7 (dk_at dksX1_half_1 8 rfl rfl)
theorem dX1_half_35 : decode cX1_half 35 = .ok (.imul, 1) := dk_104 (dk_at dksX1_half_1 11 rfl rfl)
theorem dX1_half_36 : decode cX1_half 36 = .ok (.iload 4, 2) := dk_21 4 (dk_at dksX1_half_1 12 rfl rfl)
theorem dX1_half_38 : decode cX1_half 38 = .ok (.iadd, 1) := dk_96 (dk_at dksX1_half_1 14 rfl rfl)
theorem dX1_half_39 : decode cX1_half 39 = .ok (.iaload, 1) := dk_46 (dk_at dksX1_half_1 15 rfl rfl)
theorem dX1_half_40 : decode cX1_half 40 = .ok (.iastore, 1) := dk_79 (dk_at dksX1_half_1 16 rfl rfl)
theorem dX1_half_41 : decode cX1_half 41 = .ok (.iinc 4 1, 3) := dk_132 4 1 (dk_at dksX1_half_1 17 rfl rfl)
theorem dX1_half_44 : decode cX1_half 44 = .ok (.goto (-32), 3) := dk_167 255 224 (dk_at dksX1_half_1 20 rfl rfl)
theorem dX1_half_47 : decode cX1_half 47 = .ok (.return_, 1) := dk_177 (dk_at dksX1_half_1 23 rfl rfl)
abbrev cX1_byWord : ByteArray := prog_2_method_10_code
def yX1_byWord : MethodName := ⟨RX1, "byWord", "(III)I"⟩
def dkwX1_byWord_1 : List UInt8 := [184, 0, 42, 54, 5, 42, 180, 0, 15, 27, 6, 126, 25, 4, 83, 21, 5, 172]
abbrev dktX1_byWord_1 : List UInt8 := dkwX1_byWord_1 ++ []
def dkwX1_byWord_0 : List UInt8 := [42, 180, 0, 7, 188, 10, 58, 4, 42, 180, 0, 7, 28, 42, 180, 0, 15, 29, 6, 126, 50, 25, 4]
abbrev dktX1_byWord_0 : List UInt8 := dkwX1_byWord_0 ++ dktX1_byWord_1
theorem dksX1_byWord_0 : cX1_byWord.data.toList.drop 0 = dktX1_byWord_0 := by decide +kernel
theorem dksX1_byWord_1 : cX1_byWord.data.toList.drop 23 = dktX1_byWord_1 := dk_seg dksX1_byWord_0 23 rfl rfl
theorem dX1_byWord_0 : decode cX1_byWord 0 = .ok (.aload_n 0, 1) := dk_42 (dk_at dksX1_byWord_0 0 rfl rfl)
theorem dX1_byWord_1 : decode cX1_byWord 1 = .ok (.getfield 7, 3) := dk_180 0 7 (dk_at dksX1_byWord_0 1 rfl rfl)
theorem dX1_byWord_4 : decode cX1_byWord 4 = .ok (.newarray .int, 2) := dk_188_10 (dk_at dksX1_byWord_0 4 rfl rfl)
theorem dX1_byWord_6 : decode cX1_byWord 6 = .ok (.astore 4, 2) := dk_58 4 (dk_at dksX1_byWord_0 6 rfl rfl)
theorem dX1_byWord_8 : decode cX1_byWord 8 = .ok (.aload_n 0, 1) := dk_42 (dk_at dksX1_byWord_0 8 rfl rfl)
theorem dX1_byWord_9 : decode cX1_byWord 9 = .ok (.getfield 7, 3) := dk_180 0 7 (dk_at dksX1_byWord_0 9 rfl rfl)
theorem dX1_byWord_12 : decode cX1_byWord 12 = .ok (.iload_n 2, 1) := dk_28 (dk_at dksX1_byWord_0 12 rfl rfl)
theorem dX1_byWord_13 : decode cX1_byWord 13 = .ok (.aload_n 0, 1) := dk_42 (dk_at dksX1_byWord_0 13 rfl rfl)
theorem dX1_byWord_14 : decode cX1_byWord 14 = .ok (.getfield 15, 3) := dk_180 0 15 (dk_at dksX1_byWord_0 14 rfl rfl)
theorem dX1_byWord_17 : decode cX1_byWord 17 = .ok (.iload_n 3, 1) := dk_29 (dk_at dksX1_byWord_0 17 rfl rfl)
theorem dX1_byWord_18 : decode cX1_byWord 18 = .ok (.iconst 3, 1) := dk_6 (dk_at dksX1_byWord_0 18 rfl rfl)
theorem dX1_byWord_19 : decode cX1_byWord 19 = .ok (.iand, 1) := dk_126 (dk_at dksX1_byWord_0 19 rfl rfl)
theorem dX1_byWord_20 : decode cX1_byWord 20 = .ok (.aaload, 1) := dk_50 (dk_at dksX1_byWord_0 20 rfl rfl)
theorem dX1_byWord_21 : decode cX1_byWord 21 = .ok (.aload 4, 2) := dk_25 4 (dk_at dksX1_byWord_0 21 rfl rfl)
theorem dX1_byWord_23 : decode cX1_byWord 23 = .ok (.invokestatic 42, 3) := dk_184 0 42 (dk_at dksX1_byWord_1 0 rfl rfl)
theorem dX1_byWord_26 : decode cX1_byWord 26 = .ok (.istore 5, 2) := dk_54 5 (dk_at dksX1_byWord_1 3 rfl rfl)
theorem dX1_byWord_28 : decode cX1_byWord 28 = .ok (.aload_n 0, 1) := dk_42 (dk_at dksX1_byWord_1 5 rfl rfl)
theorem dX1_byWord_29 : decode cX1_byWord 29 = .ok (.getfield 15, 3) := dk_180 0 15 (dk_at dksX1_byWord_1 6 rfl rfl)
theorem dX1_byWord_32 : decode cX1_byWord 32 = .ok (.iload_n 1, 1) := dk_27 (dk_at dksX1_byWord_1 9 rfl rfl)
theorem dX1_byWord_33 : decode cX1_byWord 33 = .ok (.iconst 3, 1) := dk_6 (dk_at dksX1_byWord_1 10 rfl rfl)
theorem dX1_byWord_34 : decode cX1_byWord 34 = .ok (.iand, 1) := dk_126 (dk_at dksX1_byWord_1 11 rfl rfl)
theorem dX1_byWord_35 : decode cX1_byWord 35 = .ok (.aload 4, 2) := dk_25 4 (dk_at dksX1_byWord_1 12 rfl rfl)
theorem dX1_byWord_37 : decode cX1_byWord 37 = .ok (.aastore, 1) := dk_83 (dk_at dksX1_byWord_1 14 rfl rfl)
theorem dX1_byWord_38 : decode cX1_byWord 38 = .ok (.iload 5, 2) := dk_21 5 (dk_at dksX1_byWord_1 15 rfl rfl)
theorem dX1_byWord_40 : decode cX1_byWord 40 = .ok (.ireturn, 1) := dk_172 (dk_at dksX1_byWord_1 17 rfl rfl)
theorem q1 : (Jvm.Cond.initialized "WholeFile") ∈ lw_all := lw_g (lw_at lw_m0 1 rfl) rfl
theorem q4 : (Jvm.Cond.instanceMethod ({ cls := "WholeFile", name := "word", desc := "(II)I" } : Jvm.MethodName)) ∈ lw_all := lw_g (lw_at lw_m0 4 rfl) rfl
theorem q5 : (Jvm.Cond.selects "WholeFile" ({ cls := "WholeFile", name := "word", desc := "(II)I" } : Jvm.MethodName) ({ cls := "WholeFile", name := "word", desc := "(II)I" } : Jvm.MethodName)) ∈ lw_all := lw_g (lw_at lw_m0 5 rfl) rfl
theorem q6 : (Jvm.Cond.code ({ cls := "WholeFile", name := "word", desc := "(II)I" } : Jvm.MethodName) prog_2_method_4_code (3 : Nat) (Option.some Jvm.ClassFile.FieldType.int)) ∈ lw_all := lw_g (lw_at lw_m0 6 rfl) rfl
theorem q8 : (Jvm.Cond.instanceMethod ({ cls := "WholeFile", name := "add", desc := "(III)I" } : Jvm.MethodName)) ∈ lw_all := lw_g (lw_at lw_m0 8 rfl) rfl
theorem q9 : (Jvm.Cond.selects "WholeFile" ({ cls := "WholeFile", name := "add", desc := "(III)I" } : Jvm.MethodName) ({ cls := "WholeFile", name := "add", desc := "(III)I" } : Jvm.MethodName)) ∈ lw_all := lw_g (lw_at lw_m0 9 rfl) rfl
theorem q10 : (Jvm.Cond.code ({ cls := "WholeFile", name := "add", desc := "(III)I" } : Jvm.MethodName) prog_2_method_5_code (4 : Nat) (Option.some Jvm.ClassFile.FieldType.int)) ∈ lw_all := lw_g (lw_at lw_m0 10 rfl) rfl
theorem q11 : (Jvm.Cond.methodLink "WholeFile" (22 : Nat) ({ cls := "Nat", name := "add", desc := "(I[I[I[I)I" } : Jvm.MethodName)) ∈ lw_all := lw_g (lw_at lw_m0 11 rfl) rfl
theorem q16 : (Jvm.Cond.instanceMethod ({ cls := "WholeFile", name := "subtract", desc := "(III)I" } : Jvm.MethodName)) ∈ lw_all := lw_g (lw_at lw_m0 16 rfl) rfl
theorem q17 : (Jvm.Cond.selects "WholeFile" ({ cls := "WholeFile", name := "subtract", desc := "(III)I" } : Jvm.MethodName) ({ cls := "WholeFile", name := "subtract", desc := "(III)I" } : Jvm.MethodName)) ∈ lw_all := lw_g (lw_at lw_m0 17 rfl) rfl
theorem q18 : (Jvm.Cond.code ({ cls := "WholeFile", name := "subtract", desc := "(III)I" } : Jvm.MethodName) prog_2_method_6_code (4 : Nat) (Option.some Jvm.ClassFile.FieldType.int)) ∈ lw_all := lw_g (lw_at lw_m0 18 rfl) rfl
theorem q19 : (Jvm.Cond.methodLink "WholeFile" (28 : Nat) ({ cls := "Nat", name := "sub", desc := "(I[I[I[I)I" } : Jvm.MethodName)) ∈ lw_all := lw_g (lw_at lw_m0 19 rfl) rfl
theorem q23 : (Jvm.Cond.instanceMethod ({ cls := "WholeFile", name := "multiply", desc := "(II)V" } : Jvm.MethodName)) ∈ lw_all := lw_g (lw_at lw_m0 23 rfl) rfl
theorem q24 : (Jvm.Cond.selects "WholeFile" ({ cls := "WholeFile", name := "multiply", desc := "(II)V" } : Jvm.MethodName) ({ cls := "WholeFile", name := "multiply", desc := "(II)V" } : Jvm.MethodName)) ∈ lw_all := lw_g (lw_at lw_m0 24 rfl) rfl
theorem q25 : (Jvm.Cond.code ({ cls := "WholeFile", name := "multiply", desc := "(II)V" } : Jvm.MethodName) prog_2_method_7_code (3 : Nat) (Option.none : Option Jvm.ClassFile.FieldType)) ∈ lw_all := lw_g (lw_at lw_m0 25 rfl) rfl
theorem q26 : (Jvm.Cond.methodLink "WholeFile" (31 : Nat) ({ cls := "Nat", name := "mul", desc := "(I[I[I[I)V" } : Jvm.MethodName)) ∈ lw_all := lw_g (lw_at lw_m0 26 rfl) rfl
theorem q36 : (Jvm.Cond.instanceMethod ({ cls := "WholeFile", name := "square", desc := "(I)V" } : Jvm.MethodName)) ∈ lw_all := lw_g (lw_at lw_m0 36 rfl) rfl
theorem q37 : (Jvm.Cond.selects "WholeFile" ({ cls := "WholeFile", name := "square", desc := "(I)V" } : Jvm.MethodName) ({ cls := "WholeFile", name := "square", desc := "(I)V" } : Jvm.MethodName)) ∈ lw_all := lw_g (lw_at lw_m0 37 rfl) rfl
theorem q38 : (Jvm.Cond.code ({ cls := "WholeFile", name := "square", desc := "(I)V" } : Jvm.MethodName) prog_2_method_8_code (2 : Nat) (Option.none : Option Jvm.ClassFile.FieldType)) ∈ lw_all := lw_g (lw_at lw_m0 38 rfl) rfl
theorem q39 : (Jvm.Cond.methodLink "WholeFile" (35 : Nat) ({ cls := "Nat", name := "square", desc := "(I[I[I)V" } : Jvm.MethodName)) ∈ lw_all := lw_g (lw_at lw_m0 39 rfl) rfl
theorem q49 : (Jvm.Cond.instanceMethod ({ cls := "WholeFile", name := "multiplyAdd", desc := "(II)I" } : Jvm.MethodName)) ∈ lw_all := lw_g (lw_at lw_m0 49 rfl) rfl
theorem q50 : (Jvm.Cond.selects "WholeFile" ({ cls := "WholeFile", name := "multiplyAdd", desc := "(II)I" } : Jvm.MethodName) ({ cls := "WholeFile", name := "multiplyAdd", desc := "(II)I" } : Jvm.MethodName)) ∈ lw_all := lw_g (lw_at lw_m0 50 rfl) rfl
theorem q51 : (Jvm.Cond.code ({ cls := "WholeFile", name := "multiplyAdd", desc := "(II)I" } : Jvm.MethodName) prog_2_method_9_code (3 : Nat) (Option.some Jvm.ClassFile.FieldType.int)) ∈ lw_all := lw_g (lw_at lw_m0 51 rfl) rfl
theorem q52 : (Jvm.Cond.methodLink "WholeFile" (39 : Nat) ({ cls := "Nat", name := "mulAddTo", desc := "(I[I[I[I)I" } : Jvm.MethodName)) ∈ lw_all := lw_g (lw_at lw_m0 52 rfl) rfl
theorem q56 : (Jvm.Cond.instanceMethod ({ cls := "WholeFile", name := "up", desc := "(II)I" } : Jvm.MethodName)) ∈ lw_all := lw_g (lw_at lw_m0 56 rfl) rfl
theorem q57 : (Jvm.Cond.selects "WholeFile" ({ cls := "WholeFile", name := "up", desc := "(II)I" } : Jvm.MethodName) ({ cls := "WholeFile", name := "up", desc := "(II)I" } : Jvm.MethodName)) ∈ lw_all := lw_g (lw_at lw_m0 57 rfl) rfl
theorem q58 : (Jvm.Cond.code ({ cls := "WholeFile", name := "up", desc := "(II)I" } : Jvm.MethodName) prog_2_method_12_code (3 : Nat) (Option.some Jvm.ClassFile.FieldType.int)) ∈ lw_all := lw_g (lw_at lw_m0 58 rfl) rfl
theorem q59 : (Jvm.Cond.constant "WholeFile" (46 : Nat) (2147483647 : Int32)) ∈ lw_all := lw_g (lw_at lw_m0 59 rfl) rfl
theorem q60 : (Jvm.Cond.methodLink "WholeFile" (47 : Nat) ({ cls := "Nat", name := "shiftUpBits", desc := "(I[III)I" } : Jvm.MethodName)) ∈ lw_all := lw_g (lw_at lw_m0 60 rfl) rfl
theorem q64 : (Jvm.Cond.instanceMethod ({ cls := "WholeFile", name := "down", desc := "(II)I" } : Jvm.MethodName)) ∈ lw_all := lw_g (lw_at lw_m0 64 rfl) rfl
theorem q65 : (Jvm.Cond.selects "WholeFile" ({ cls := "WholeFile", name := "down", desc := "(II)I" } : Jvm.MethodName) ({ cls := "WholeFile", name := "down", desc := "(II)I" } : Jvm.MethodName)) ∈ lw_all := lw_g (lw_at lw_m0 65 rfl) rfl
theorem q66 : (Jvm.Cond.code ({ cls := "WholeFile", name := "down", desc := "(II)I" } : Jvm.MethodName) prog_2_method_13_code (3 : Nat) (Option.some Jvm.ClassFile.FieldType.int)) ∈ lw_all := lw_g (lw_at lw_m0 66 rfl) rfl
theorem q67 : (Jvm.Cond.methodLink "WholeFile" (51 : Nat) ({ cls := "Nat", name := "shiftDownBits", desc := "(I[III)I" } : Jvm.MethodName)) ∈ lw_all := lw_g (lw_at lw_m0 67 rfl) rfl
theorem q71 : (Jvm.Cond.instanceMethod ({ cls := "WholeFile", name := "more", desc := "(I)I" } : Jvm.MethodName)) ∈ lw_all := lw_g (lw_at lw_m0 71 rfl) rfl
theorem q72 : (Jvm.Cond.selects "WholeFile" ({ cls := "WholeFile", name := "more", desc := "(I)I" } : Jvm.MethodName) ({ cls := "WholeFile", name := "more", desc := "(I)I" } : Jvm.MethodName)) ∈ lw_all := lw_g (lw_at lw_m0 72 rfl) rfl
theorem q73 : (Jvm.Cond.code ({ cls := "WholeFile", name := "more", desc := "(I)I" } : Jvm.MethodName) prog_2_method_14_code (2 : Nat) (Option.some Jvm.ClassFile.FieldType.int)) ∈ lw_all := lw_g (lw_at lw_m0 73 rfl) rfl
theorem q74 : (Jvm.Cond.methodLink "WholeFile" (54 : Nat) ({ cls := "Nat", name := "inc", desc := "(I[I)I" } : Jvm.MethodName)) ∈ lw_all := lw_g (lw_at lw_m0 74 rfl) rfl
theorem q78 : (Jvm.Cond.instanceMethod ({ cls := "WholeFile", name := "less", desc := "(I)I" } : Jvm.MethodName)) ∈ lw_all := lw_g (lw_at lw_m0 78 rfl) rfl
theorem q79 : (Jvm.Cond.selects "WholeFile" ({ cls := "WholeFile", name := "less", desc := "(I)I" } : Jvm.MethodName) ({ cls := "WholeFile", name := "less", desc := "(I)I" } : Jvm.MethodName)) ∈ lw_all := lw_g (lw_at lw_m0 79 rfl) rfl
theorem q80 : (Jvm.Cond.code ({ cls := "WholeFile", name := "less", desc := "(I)I" } : Jvm.MethodName) prog_2_method_15_code (2 : Nat) (Option.some Jvm.ClassFile.FieldType.int)) ∈ lw_all := lw_g (lw_at lw_m0 80 rfl) rfl
theorem q81 : (Jvm.Cond.methodLink "WholeFile" (58 : Nat) ({ cls := "Nat", name := "dec", desc := "(I[I)I" } : Jvm.MethodName)) ∈ lw_all := lw_g (lw_at lw_m0 81 rfl) rfl
theorem q85 : (Jvm.Cond.instanceMethod ({ cls := "WholeFile", name := "atLeast", desc := "(II)Z" } : Jvm.MethodName)) ∈ lw_all := lw_g (lw_at lw_m0 85 rfl) rfl
theorem q86 : (Jvm.Cond.selects "WholeFile" ({ cls := "WholeFile", name := "atLeast", desc := "(II)Z" } : Jvm.MethodName) ({ cls := "WholeFile", name := "atLeast", desc := "(II)Z" } : Jvm.MethodName)) ∈ lw_all := lw_g (lw_at lw_m0 86 rfl) rfl
theorem q87 : (Jvm.Cond.code ({ cls := "WholeFile", name := "atLeast", desc := "(II)Z" } : Jvm.MethodName) prog_2_method_16_code (3 : Nat) (Option.some Jvm.ClassFile.FieldType.boolean)) ∈ lw_all := lw_g (lw_at lw_m0 87 rfl) rfl
theorem q88 : (Jvm.Cond.methodLink "WholeFile" (61 : Nat) ({ cls := "Nat", name := "gte", desc := "(I[I[I)Z" } : Jvm.MethodName)) ∈ lw_all := lw_g (lw_at lw_m0 88 rfl) rfl
theorem q93 : (Jvm.Cond.instanceMethod ({ cls := "WholeFile", name := "wide", desc := "(I)I" } : Jvm.MethodName)) ∈ lw_all := lw_g (lw_at lw_m0 93 rfl) rfl
theorem q94 : (Jvm.Cond.selects "WholeFile" ({ cls := "WholeFile", name := "wide", desc := "(I)I" } : Jvm.MethodName) ({ cls := "WholeFile", name := "wide", desc := "(I)I" } : Jvm.MethodName)) ∈ lw_all := lw_g (lw_at lw_m0 94 rfl) rfl
theorem q95 : (Jvm.Cond.code ({ cls := "WholeFile", name := "wide", desc := "(I)I" } : Jvm.MethodName) prog_2_method_17_code (2 : Nat) (Option.some Jvm.ClassFile.FieldType.int)) ∈ lw_all := lw_g (lw_at lw_m0 95 rfl) rfl
theorem q103 : (Jvm.Cond.instantiable "WholeFile" (3 : Nat)) ∈ lw_all := lw_g (lw_at lw_m0 103 rfl) rfl
theorem q105 : (Jvm.Cond.instanceMethod ({ cls := "WholeFile", name := "<init>", desc := "()V" } : Jvm.MethodName)) ∈ lw_all := lw_g (lw_at lw_m0 105 rfl) rfl
theorem q106 : (Jvm.Cond.code ({ cls := "WholeFile", name := "<init>", desc := "()V" } : Jvm.MethodName) prog_2_method_1_code (1 : Nat) (Option.none : Option Jvm.ClassFile.FieldType)) ∈ lw_all := lw_g (lw_at lw_m0 106 rfl) rfl
theorem q107 : (Jvm.Cond.methodLink "WholeFile" (1 : Nat) ({ cls := "java/lang/Object", name := "<init>", desc := "()V" } : Jvm.MethodName)) ∈ lw_all := lw_g (lw_at lw_m0 107 rfl) rfl
theorem q110 : (Jvm.Cond.classLink "WholeFile" (13 : Nat) "[[I") ∈ lw_all := lw_g (lw_at lw_m0 110 rfl) rfl
theorem q112 : (Jvm.Cond.fieldLink "WholeFile" (7 : Nat) "WholeFile" "n" "I") ∈ lw_all := lw_g (lw_at lw_m0 112 rfl) rfl
theorem q113 : (Jvm.Cond.fieldLink "WholeFile" (15 : Nat) "WholeFile" "file" "[[I") ∈ lw_all := lw_g (lw_at lw_m0 113 rfl) rfl
theorem q114 : (Jvm.Cond.fieldLink "WholeFile" (18 : Nat) "WholeFile" "wide" "[I") ∈ lw_all := lw_g (lw_at lw_m0 114 rfl) rfl
theorem q115 : (Jvm.Cond.lays "WholeFile" "WholeFile" "n" "I") ∈ lw_all := lw_g (lw_at lw_m0 115 rfl) rfl
theorem q116 : (Jvm.Cond.soleField "WholeFile" "n") ∈ lw_all := lw_g (lw_at lw_m0 116 rfl) rfl
theorem q117 : (Jvm.Cond.lays "WholeFile" "WholeFile" "file" "[[I") ∈ lw_all := lw_g (lw_at lw_m0 117 rfl) rfl
theorem q118 : (Jvm.Cond.soleField "WholeFile" "file") ∈ lw_all := lw_g (lw_at lw_m0 118 rfl) rfl
theorem q119 : (Jvm.Cond.lays "WholeFile" "WholeFile" "wide" "[I") ∈ lw_all := lw_g (lw_at lw_m0 119 rfl) rfl
theorem q120 : (Jvm.Cond.soleField "WholeFile" "wide") ∈ lw_all := lw_g (lw_at lw_m0 120 rfl) rfl
theorem q121 : (Jvm.Cond.superclass "WholeFile" "java/lang/Object") ∈ lw_all := lw_g (lw_at lw_m0 121 rfl) rfl
theorem q124 : (Jvm.Cond.instanceMethod ({ cls := "WholeFile", name := "width", desc := "(I)V" } : Jvm.MethodName)) ∈ lw_all := lw_g (lw_at lw_m0 124 rfl) rfl
theorem q125 : (Jvm.Cond.selects "WholeFile" ({ cls := "WholeFile", name := "width", desc := "(I)V" } : Jvm.MethodName) ({ cls := "WholeFile", name := "width", desc := "(I)V" } : Jvm.MethodName)) ∈ lw_all := lw_g (lw_at lw_m0 125 rfl) rfl
theorem q126 : (Jvm.Cond.code ({ cls := "WholeFile", name := "width", desc := "(I)V" } : Jvm.MethodName) prog_2_method_2_code (2 : Nat) (Option.none : Option Jvm.ClassFile.FieldType)) ∈ lw_all := lw_g (lw_at lw_m0 126 rfl) rfl
theorem q128 : (Jvm.Cond.instanceMethod ({ cls := "WholeFile", name := "put", desc := "(IIIII)V" } : Jvm.MethodName)) ∈ lw_all := lw_g (lw_at lw_m0 128 rfl) rfl
theorem q129 : (Jvm.Cond.selects "WholeFile" ({ cls := "WholeFile", name := "put", desc := "(IIIII)V" } : Jvm.MethodName) ({ cls := "WholeFile", name := "put", desc := "(IIIII)V" } : Jvm.MethodName)) ∈ lw_all := lw_g (lw_at lw_m0 129 rfl) rfl
theorem q130 : (Jvm.Cond.code ({ cls := "WholeFile", name := "put", desc := "(IIIII)V" } : Jvm.MethodName) prog_2_method_3_code (8 : Nat) (Option.none : Option Jvm.ClassFile.FieldType)) ∈ lw_all := lw_g (lw_at lw_m0 130 rfl) rfl
theorem q142 : (Jvm.Cond.instanceMethod ({ cls := "WholeFile", name := "half", desc := "(II)V" } : Jvm.MethodName)) ∈ lw_all := lw_g (lw_at lw_m0 142 rfl) rfl
theorem q143 : (Jvm.Cond.selects "WholeFile" ({ cls := "WholeFile", name := "half", desc := "(II)V" } : Jvm.MethodName) ({ cls := "WholeFile", name := "half", desc := "(II)V" } : Jvm.MethodName)) ∈ lw_all := lw_g (lw_at lw_m0 143 rfl) rfl
theorem q144 : (Jvm.Cond.code ({ cls := "WholeFile", name := "half", desc := "(II)V" } : Jvm.MethodName) prog_2_method_11_code (5 : Nat) (Option.none : Option Jvm.ClassFile.FieldType)) ∈ lw_all := lw_g (lw_at lw_m0 144 rfl) rfl
theorem q146 : (Jvm.Cond.instanceMethod ({ cls := "WholeFile", name := "byWord", desc := "(III)I" } : Jvm.MethodName)) ∈ lw_all := lw_g (lw_at lw_m0 146 rfl) rfl
theorem q147 : (Jvm.Cond.selects "WholeFile" ({ cls := "WholeFile", name := "byWord", desc := "(III)I" } : Jvm.MethodName) ({ cls := "WholeFile", name := "byWord", desc := "(III)I" } : Jvm.MethodName)) ∈ lw_all := lw_g (lw_at lw_m0 147 rfl) rfl
theorem q148 : (Jvm.Cond.code ({ cls := "WholeFile", name := "byWord", desc := "(III)I" } : Jvm.MethodName) prog_2_method_10_code (6 : Nat) (Option.some Jvm.ClassFile.FieldType.int)) ∈ lw_all := lw_g (lw_at lw_m0 148 rfl) rfl
theorem q149 : (Jvm.Cond.methodLink "WholeFile" (42 : Nat) ({ cls := "Nat", name := "mulWord", desc := "(II[I[I)I" } : Jvm.MethodName)) ∈ lw_all := lw_g (lw_at lw_m0 149 rfl) rfl
theorem in_X1 : ∀ w ∈ wsX10, w ∈ lw_all := lw_in wsX10 [115, 117, 119] (by decide +kernel) (by decide +kernel)
end
section
/-! WholeFileLaw -/
set_option maxRecDepth 100000
def RX0 : String := "WholeFileLaw"
abbrev cX0_cell : ByteArray := method_2_code
def yX0_cell : MethodName := ⟨RX0, "cell", "([II)I"⟩
def dkwX0_cell_0 : List UInt8 := [27, 42, 190, 162, 0, 9, 42, 27, 46, 167, 0, 4, 3, 172]
abbrev dktX0_cell_0 : List UInt8 := dkwX0_cell_0 ++ []
theorem dksX0_cell_0 : cX0_cell.data.toList.drop 0 = dktX0_cell_0 := by decide +kernel
theorem dX0_cell_0 : decode cX0_cell 0 = .ok (.iload_n 1, 1) := dk_27 (dk_at dksX0_cell_0 0 rfl rfl)
theorem dX0_cell_1 : decode cX0_cell 1 = .ok (.aload_n 0, 1) := dk_42 (dk_at dksX0_cell_0 1 rfl rfl)
theorem dX0_cell_2 : decode cX0_cell 2 = .ok (.arraylength, 1) := dk_190 (dk_at dksX0_cell_0 2 rfl rfl)
theorem dX0_cell_3 : decode cX0_cell 3 = .ok (.if_icmp .ge 9, 3) := dk_162 0 9 (dk_at dksX0_cell_0 3 rfl rfl)
theorem dX0_cell_6 : decode cX0_cell 6 = .ok (.aload_n 0, 1) := dk_42 (dk_at dksX0_cell_0 6 rfl rfl)
theorem dX0_cell_7 : decode cX0_cell 7 = .ok (.iload_n 1, 1) := dk_27 (dk_at dksX0_cell_0 7 rfl rfl)
theorem dX0_cell_8 : decode cX0_cell 8 = .ok (.iaload, 1) := dk_46 (dk_at dksX0_cell_0 8 rfl rfl)
theorem dX0_cell_9 : decode cX0_cell 9 = .ok (.goto 4, 3) := dk_167 0 4 (dk_at dksX0_cell_0 9 rfl rfl)
theorem dX0_cell_12 : decode cX0_cell 12 = .ok (.iconst 0, 1) := dk_3 (dk_at dksX0_cell_0 12 rfl rfl)
theorem dX0_cell_13 : decode cX0_cell 13 = .ok (.ireturn, 1) := dk_172 (dk_at dksX0_cell_0 13 rfl rfl)
abbrev cX0_three : ByteArray := method_3_code
def yX0_three : MethodName := ⟨RX0, "three", "([I)LWholeFile;"⟩
def dkwX0_three_6 : List UInt8 := [167, 255, 144, 43, 176]
abbrev dktX0_three_6 : List UInt8 := dkwX0_three_6 ++ []
def dkwX0_three_5 : List UInt8 := [104, 96, 21, 4, 5, 96, 28, 112, 96, 184, 0, 10, 182, 0, 20, 132, 4, 1, 167, 255, 158, 132, 3, 1]
abbrev dktX0_three_5 : List UInt8 := dkwX0_three_5 ++ dktX0_three_6
def dkwX0_three_4 : List UInt8 := [21, 4, 5, 96, 28, 162, 0, 14, 42, 21, 5, 5, 96, 184, 0, 10, 167, 0, 20, 42, 4, 16, 16, 29]
abbrev dktX0_three_4 : List UInt8 := dkwX0_three_4 ++ dktX0_three_5
def dkwX0_three_3 : List UInt8 := [162, 0, 14, 42, 21, 5, 4, 96, 184, 0, 10, 167, 0, 13, 42, 4, 16, 16, 29, 104, 96, 184, 0, 10]
abbrev dktX0_three_3 : List UInt8 := dkwX0_three_3 ++ dktX0_three_4
def dkwX0_three_2 : List UInt8 := [29, 104, 96, 21, 4, 96, 54, 5, 43, 29, 21, 4, 42, 21, 5, 184, 0, 10, 21, 4, 4, 96, 28]
abbrev dktX0_three_2 : List UInt8 := dkwX0_three_2 ++ dktX0_three_3
def dkwX0_three_1 : List UInt8 := [16, 15, 126, 96, 61, 3, 62, 29, 6, 162, 0, 113, 3, 54, 4, 21, 4, 28, 162, 0, 98, 4, 16, 16]
abbrev dktX0_three_1 : List UInt8 := dkwX0_three_1 ++ dktX0_three_2
def dkwX0_three_0 : List UInt8 := [187, 0, 7, 89, 183, 0, 9, 76, 43, 42, 3, 184, 0, 10, 182, 0, 16, 4, 42, 3, 184, 0, 10]
abbrev dktX0_three_0 : List UInt8 := dkwX0_three_0 ++ dktX0_three_1
theorem dksX0_three_0 : cX0_three.data.toList.drop 0 = dktX0_three_0 := by decide +kernel
theorem dksX0_three_1 : cX0_three.data.toList.drop 23 = dktX0_three_1 := dk_seg dksX0_three_0 23 rfl rfl
theorem dksX0_three_2 : cX0_three.data.toList.drop 47 = dktX0_three_2 := dk_seg dksX0_three_1 24 rfl rfl
theorem dksX0_three_3 : cX0_three.data.toList.drop 70 = dktX0_three_3 := dk_seg dksX0_three_2 23 rfl rfl
theorem dksX0_three_4 : cX0_three.data.toList.drop 94 = dktX0_three_4 := dk_seg dksX0_three_3 24 rfl rfl
theorem dksX0_three_5 : cX0_three.data.toList.drop 118 = dktX0_three_5 := dk_seg dksX0_three_4 24 rfl rfl
theorem dksX0_three_6 : cX0_three.data.toList.drop 142 = dktX0_three_6 := dk_seg dksX0_three_5 24 rfl rfl
theorem dX0_three_0 : decode cX0_three 0 = .ok (.new 7, 3) := dk_187 0 7 (dk_at dksX0_three_0 0 rfl rfl)
theorem dX0_three_3 : decode cX0_three 3 = .ok (.dup, 1) := dk_89 (dk_at dksX0_three_0 3 rfl rfl)
theorem dX0_three_4 : decode cX0_three 4 = .ok (.invokespecial 9, 3) := dk_183 0 9 (dk_at dksX0_three_0 4 rfl rfl)
theorem dX0_three_7 : decode cX0_three 7 = .ok (.astore_n 1, 1) := dk_76 (dk_at dksX0_three_0 7 rfl rfl)
theorem dX0_three_8 : decode cX0_three 8 = .ok (.aload_n 1, 1) := dk_43 (dk_at dksX0_three_0 8 rfl rfl)
theorem dX0_three_9 : decode cX0_three 9 = .ok (.aload_n 0, 1) := dk_42 (dk_at dksX0_three_0 9 rfl rfl)
theorem dX0_three_10 : decode cX0_three 10 = .ok (.iconst 0, 1) := dk_3 (dk_at dksX0_three_0 10 rfl rfl)
theorem dX0_three_11 : decode cX0_three 11 = .ok (.invokestatic 10, 3) := dk_184 0 10 (dk_at dksX0_three_0 11 rfl rfl)
theorem dX0_three_14 : decode cX0_three 14 = .ok (.invokevirtual 16, 3) := dk_182 0 16 (dk_at dksX0_three_0 14 rfl rfl)
theorem dX0_three_17 : decode cX0_three 17 = .ok (.iconst 1, 1) := dk_4 (dk_at dksX0_three_0 17 rfl rfl)
theorem dX0_three_18 : decode cX0_three 18 = .ok (.aload_n 0, 1) := dk_42 (dk_at dksX0_three_0 18 rfl rfl)
theorem dX0_three_19 : decode cX0_three 19 = .ok (.iconst 0, 1) := dk_3 (dk_at dksX0_three_0 19 rfl rfl)
theorem dX0_three_20 : decode cX0_three 20 = .ok (.invokestatic 10, 3) := dk_184 0 10 (dk_at dksX0_three_0 20 rfl rfl)
theorem dX0_three_23 : decode cX0_three 23 = .ok (.bipush 15, 2) := dk_16 15 (dk_at dksX0_three_1 0 rfl rfl)
theorem dX0_three_25 : decode cX0_three 25 = .ok (.iand, 1) := dk_126 (dk_at dksX0_three_1 2 rfl rfl)
theorem dX0_three_26 : decode cX0_three 26 = .ok (.iadd, 1) := dk_96 (dk_at dksX0_three_1 3 rfl rfl)
theorem dX0_three_27 : decode cX0_three 27 = .ok (.istore_n 2, 1) := dk_61 (dk_at dksX0_three_1 4 rfl rfl)
theorem dX0_three_28 : decode cX0_three 28 = .ok (.iconst 0, 1) := dk_3 (dk_at dksX0_three_1 5 rfl rfl)
theorem dX0_three_29 : decode cX0_three 29 = .ok (.istore_n 3, 1) := dk_62 (dk_at dksX0_three_1 6 rfl rfl)
theorem dX0_three_30 : decode cX0_three 30 = .ok (.iload_n 3, 1) := dk_29 (dk_at dksX0_three_1 7 rfl rfl)
theorem dX0_three_31 : decode cX0_three 31 = .ok (.iconst 3, 1) := dk_6 (dk_at dksX0_three_1 8 rfl rfl)
theorem dX0_three_32 : decode cX0_three 32 = .ok (.if_icmp .ge 113, 3) := dk_162 0 113 (dk_at dksX0_three_1 9 rfl rfl)
theorem dX0_three_35 : decode cX0_three 35 = .ok (.iconst 0, 1) := dk_3 (dk_at dksX0_three_1 12 rfl rfl)
theorem dX0_three_36 : decode cX0_three 36 = .ok (.istore 4, 2) := dk_54 4 (dk_at dksX0_three_1 13 rfl rfl)
theorem dX0_three_38 : decode cX0_three 38 = .ok (.iload 4, 2) := dk_21 4 (dk_at dksX0_three_1 15 rfl rfl)
theorem dX0_three_40 : decode cX0_three 40 = .ok (.iload_n 2, 1) := dk_28 (dk_at dksX0_three_1 17 rfl rfl)
theorem dX0_three_41 : decode cX0_three 41 = .ok (.if_icmp .ge 98, 3) := dk_162 0 98 (dk_at dksX0_three_1 18 rfl rfl)
theorem dX0_three_44 : decode cX0_three 44 = .ok (.iconst 1, 1) := dk_4 (dk_at dksX0_three_1 21 rfl rfl)
theorem dX0_three_45 : decode cX0_three 45 = .ok (.bipush 16, 2) := dk_16 16 (dk_at dksX0_three_1 22 rfl rfl)
theorem dX0_three_47 : decode cX0_three 47 = .ok (.iload_n 3, 1) := dk_29 (dk_at dksX0_three_2 0 rfl rfl)
theorem dX0_three_48 : decode cX0_three 48 = .ok (.imul, 1) := dk_104 (dk_at dksX0_three_2 1 rfl rfl)
theorem dX0_three_49 : decode cX0_three 49 = .ok (.iadd, 1) := dk_96 (dk_at dksX0_three_2 2 rfl rfl)
theorem dX0_three_50 : decode cX0_three 50 = .ok (.iload 4, 2) := dk_21 4 (dk_at dksX0_three_2 3 rfl rfl)
theorem dX0_three_52 : decode cX0_three 52 = .ok (.iadd, 1) := dk_96 (dk_at dksX0_three_2 5 rfl rfl)
theorem dX0_three_53 : decode cX0_three 53 = .ok (.istore 5, 2) := dk_54 5 (dk_at dksX0_three_2 6 rfl rfl)
theorem dX0_three_55 : decode cX0_three 55 = .ok (.aload_n 1, 1) := dk_43 (dk_at dksX0_three_2 8 rfl rfl)
theorem dX0_three_56 : decode cX0_three 56 = .ok (.iload_n 3, 1) := dk_29 (dk_at dksX0_three_2 9 rfl rfl)
theorem dX0_three_57 : decode cX0_three 57 = .ok (.iload 4, 2) := dk_21 4 (dk_at dksX0_three_2 10 rfl rfl)
theorem dX0_three_59 : decode cX0_three 59 = .ok (.aload_n 0, 1) := dk_42 (dk_at dksX0_three_2 12 rfl rfl)
theorem dX0_three_60 : decode cX0_three 60 = .ok (.iload 5, 2) := dk_21 5 (dk_at dksX0_three_2 13 rfl rfl)
theorem dX0_three_62 : decode cX0_three 62 = .ok (.invokestatic 10, 3) := dk_184 0 10 (dk_at dksX0_three_2 15 rfl rfl)
theorem dX0_three_65 : decode cX0_three 65 = .ok (.iload 4, 2) := dk_21 4 (dk_at dksX0_three_2 18 rfl rfl)
theorem dX0_three_67 : decode cX0_three 67 = .ok (.iconst 1, 1) := dk_4 (dk_at dksX0_three_2 20 rfl rfl)
theorem dX0_three_68 : decode cX0_three 68 = .ok (.iadd, 1) := dk_96 (dk_at dksX0_three_2 21 rfl rfl)
theorem dX0_three_69 : decode cX0_three 69 = .ok (.iload_n 2, 1) := dk_28 (dk_at dksX0_three_2 22 rfl rfl)
theorem dX0_three_70 : decode cX0_three 70 = .ok (.if_icmp .ge 14, 3) := dk_162 0 14 (dk_at dksX0_three_3 0 rfl rfl)
theorem dX0_three_73 : decode cX0_three 73 = .ok (.aload_n 0, 1) := dk_42 (dk_at dksX0_three_3 3 rfl rfl)
theorem dX0_three_74 : decode cX0_three 74 = .ok (.iload 5, 2) := dk_21 5 (dk_at dksX0_three_3 4 rfl rfl)
theorem dX0_three_76 : decode cX0_three 76 = .ok (.iconst 1, 1) := dk_4 (dk_at dksX0_three_3 6 rfl rfl)
theorem dX0_three_77 : decode cX0_three 77 = .ok (.iadd, 1) := dk_96 (dk_at dksX0_three_3 7 rfl rfl)
theorem dX0_three_78 : decode cX0_three 78 = .ok (.invokestatic 10, 3) := dk_184 0 10 (dk_at dksX0_three_3 8 rfl rfl)
theorem dX0_three_81 : decode cX0_three 81 = .ok (.goto 13, 3) := dk_167 0 13 (dk_at dksX0_three_3 11 rfl rfl)
theorem dX0_three_84 : decode cX0_three 84 = .ok (.aload_n 0, 1) := dk_42 (dk_at dksX0_three_3 14 rfl rfl)
theorem dX0_three_85 : decode cX0_three 85 = .ok (.iconst 1, 1) := dk_4 (dk_at dksX0_three_3 15 rfl rfl)
theorem dX0_three_86 : decode cX0_three 86 = .ok (.bipush 16, 2) := dk_16 16 (dk_at dksX0_three_3 16 rfl rfl)
theorem dX0_three_88 : decode cX0_three 88 = .ok (.iload_n 3, 1) := dk_29 (dk_at dksX0_three_3 18 rfl rfl)
theorem dX0_three_89 : decode cX0_three 89 = .ok (.imul, 1) := dk_104 (dk_at dksX0_three_3 19 rfl rfl)
theorem dX0_three_90 : decode cX0_three 90 = .ok (.iadd, 1) := dk_96 (dk_at dksX0_three_3 20 rfl rfl)
theorem dX0_three_91 : decode cX0_three 91 = .ok (.invokestatic 10, 3) := dk_184 0 10 (dk_at dksX0_three_3 21 rfl rfl)
theorem dX0_three_94 : decode cX0_three 94 = .ok (.iload 4, 2) := dk_21 4 (dk_at dksX0_three_4 0 rfl rfl)
theorem dX0_three_96 : decode cX0_three 96 = .ok (.iconst 2, 1) := dk_5 (dk_at dksX0_three_4 2 rfl rfl)
theorem dX0_three_97 : decode cX0_three 97 = .ok (.iadd, 1) := dk_96 (dk_at dksX0_three_4 3 rfl rfl)
theorem dX0_three_98 : decode cX0_three 98 = .ok (.iload_n 2, 1) := dk_28 (dk_at dksX0_three_4 4 rfl rfl)
theorem dX0_three_99 : decode cX0_three 99 = .ok (.if_icmp .ge 14, 3) := dk_162 0 14 (dk_at dksX0_three_4 5 rfl rfl)
theorem dX0_three_102 : decode cX0_three 102 = .ok (.aload_n 0, 1) := dk_42 (dk_at dksX0_three_4 8 rfl rfl)
theorem dX0_three_103 : decode cX0_three 103 = .ok (.iload 5, 2) := dk_21 5 (dk_at dksX0_three_4 9 rfl rfl)
theorem dX0_three_105 : decode cX0_three 105 = .ok (.iconst 2, 1) := dk_5 (dk_at dksX0_three_4 11 rfl rfl)
theorem dX0_three_106 : decode cX0_three 106 = .ok (.iadd, 1) := dk_96 (dk_at dksX0_three_4 12 rfl rfl)
theorem dX0_three_107 : decode cX0_three 107 = .ok (.invokestatic 10, 3) := dk_184 0 10 (dk_at dksX0_three_4 13 rfl rfl)
theorem dX0_three_110 : decode cX0_three 110 = .ok (.goto 20, 3) := dk_167 0 20 (dk_at dksX0_three_4 16 rfl rfl)
theorem dX0_three_113 : decode cX0_three 113 = .ok (.aload_n 0, 1) := dk_42 (dk_at dksX0_three_4 19 rfl rfl)
theorem dX0_three_114 : decode cX0_three 114 = .ok (.iconst 1, 1) := dk_4 (dk_at dksX0_three_4 20 rfl rfl)
theorem dX0_three_115 : decode cX0_three 115 = .ok (.bipush 16, 2) := dk_16 16 (dk_at dksX0_three_4 21 rfl rfl)
theorem dX0_three_117 : decode cX0_three 117 = .ok (.iload_n 3, 1) := dk_29 (dk_at dksX0_three_4 23 rfl rfl)
theorem dX0_three_118 : decode cX0_three 118 = .ok (.imul, 1) := dk_104 (dk_at dksX0_three_5 0 rfl rfl)
theorem dX0_three_119 : decode cX0_three 119 = .ok (.iadd, 1) := dk_96 (dk_at dksX0_three_5 1 rfl rfl)
theorem dX0_three_120 : decode cX0_three 120 = .ok (.iload 4, 2) := dk_21 4 (dk_at dksX0_three_5 2 rfl rfl)
theorem dX0_three_122 : decode cX0_three 122 = .ok (.iconst 2, 1) := dk_5 (dk_at dksX0_three_5 4 rfl rfl)
theorem dX0_three_123 : decode cX0_three 123 = .ok (.iadd, 1) := dk_96 (dk_at dksX0_three_5 5 rfl rfl)
theorem dX0_three_124 : decode cX0_three 124 = .ok (.iload_n 2, 1) := dk_28 (dk_at dksX0_three_5 6 rfl rfl)
theorem dX0_three_125 : decode cX0_three 125 = .ok (.irem, 1) := dk_112 (dk_at dksX0_three_5 7 rfl rfl)
theorem dX0_three_126 : decode cX0_three 126 = .ok (.iadd, 1) := dk_96 (dk_at dksX0_three_5 8 rfl rfl)
theorem dX0_three_127 : decode cX0_three 127 = .ok (.invokestatic 10, 3) := dk_184 0 10 (dk_at dksX0_three_5 9 rfl rfl)
theorem dX0_three_130 : decode cX0_three 130 = .ok (.invokevirtual 20, 3) := dk_182 0 20 (dk_at dksX0_three_5 12 rfl rfl)
theorem dX0_three_133 : decode cX0_three 133 = .ok (.iinc 4 1, 3) := dk_132 4 1 (dk_at dksX0_three_5 15 rfl rfl)
theorem dX0_three_136 : decode cX0_three 136 = .ok (.goto (-98), 3) := dk_167 255 158 (dk_at dksX0_three_5 18 rfl rfl)
theorem dX0_three_139 : decode cX0_three 139 = .ok (.iinc 3 1, 3) := dk_132 3 1 (dk_at dksX0_three_5 21 rfl rfl)
theorem dX0_three_142 : decode cX0_three 142 = .ok (.goto (-112), 3) := dk_167 255 144 (dk_at dksX0_three_6 0 rfl rfl)
theorem dX0_three_145 : decode cX0_three 145 = .ok (.aload_n 1, 1) := dk_43 (dk_at dksX0_three_6 3 rfl rfl)
theorem dX0_three_146 : decode cX0_three 146 = .ok (.areturn, 1) := dk_176 (dk_at dksX0_three_6 4 rfl rfl)
abbrev cX0_same : ByteArray := method_4_code
def yX0_same : MethodName := ⟨RX0, "same", "(LWholeFile;ILWholeFile;II)Z"⟩
def dkwX0_same_1 : List UInt8 := [159, 0, 5, 3, 172, 132, 5, 1, 167, 255, 227, 4, 172]
abbrev dktX0_same_1 : List UInt8 := dkwX0_same_1 ++ []
def dkwX0_same_0 : List UInt8 := [3, 54, 5, 21, 5, 21, 4, 162, 0, 28, 42, 27, 21, 5, 182, 0, 24, 44, 29, 21, 5, 182, 0, 24]
abbrev dktX0_same_0 : List UInt8 := dkwX0_same_0 ++ dktX0_same_1
theorem dksX0_same_0 : cX0_same.data.toList.drop 0 = dktX0_same_0 := by decide +kernel
theorem dksX0_same_1 : cX0_same.data.toList.drop 24 = dktX0_same_1 := dk_seg dksX0_same_0 24 rfl rfl
theorem dX0_same_0 : decode cX0_same 0 = .ok (.iconst 0, 1) := dk_3 (dk_at dksX0_same_0 0 rfl rfl)
theorem dX0_same_1 : decode cX0_same 1 = .ok (.istore 5, 2) := dk_54 5 (dk_at dksX0_same_0 1 rfl rfl)
theorem dX0_same_3 : decode cX0_same 3 = .ok (.iload 5, 2) := dk_21 5 (dk_at dksX0_same_0 3 rfl rfl)
theorem dX0_same_5 : decode cX0_same 5 = .ok (.iload 4, 2) := dk_21 4 (dk_at dksX0_same_0 5 rfl rfl)
theorem dX0_same_7 : decode cX0_same 7 = .ok (.if_icmp .ge 28, 3) := dk_162 0 28 (dk_at dksX0_same_0 7 rfl rfl)
theorem dX0_same_10 : decode cX0_same 10 = .ok (.aload_n 0, 1) := dk_42 (dk_at dksX0_same_0 10 rfl rfl)
theorem dX0_same_11 : decode cX0_same 11 = .ok (.iload_n 1, 1) := dk_27 (dk_at dksX0_same_0 11 rfl rfl)
theorem dX0_same_12 : decode cX0_same 12 = .ok (.iload 5, 2) := dk_21 5 (dk_at dksX0_same_0 12 rfl rfl)
theorem dX0_same_14 : decode cX0_same 14 = .ok (.invokevirtual 24, 3) := dk_182 0 24 (dk_at dksX0_same_0 14 rfl rfl)
theorem dX0_same_17 : decode cX0_same 17 = .ok (.aload_n 2, 1) := dk_44 (dk_at dksX0_same_0 17 rfl rfl)
theorem dX0_same_18 : decode cX0_same 18 = .ok (.iload_n 3, 1) := dk_29 (dk_at dksX0_same_0 18 rfl rfl)
theorem dX0_same_19 : decode cX0_same 19 = .ok (.iload 5, 2) := dk_21 5 (dk_at dksX0_same_0 19 rfl rfl)
theorem dX0_same_21 : decode cX0_same 21 = .ok (.invokevirtual 24, 3) := dk_182 0 24 (dk_at dksX0_same_0 21 rfl rfl)
theorem dX0_same_24 : decode cX0_same 24 = .ok (.if_icmp .eq 5, 3) := dk_159 0 5 (dk_at dksX0_same_1 0 rfl rfl)
theorem dX0_same_27 : decode cX0_same 27 = .ok (.iconst 0, 1) := dk_3 (dk_at dksX0_same_1 3 rfl rfl)
theorem dX0_same_28 : decode cX0_same 28 = .ok (.ireturn, 1) := dk_172 (dk_at dksX0_same_1 4 rfl rfl)
theorem dX0_same_29 : decode cX0_same 29 = .ok (.iinc 5 1, 3) := dk_132 5 1 (dk_at dksX0_same_1 5 rfl rfl)
theorem dX0_same_32 : decode cX0_same 32 = .ok (.goto (-29), 3) := dk_167 255 227 (dk_at dksX0_same_1 8 rfl rfl)
theorem dX0_same_35 : decode cX0_same 35 = .ok (.iconst 1, 1) := dk_4 (dk_at dksX0_same_1 11 rfl rfl)
theorem dX0_same_36 : decode cX0_same 36 = .ok (.ireturn, 1) := dk_172 (dk_at dksX0_same_1 12 rfl rfl)
abbrev cX0_sameWide : ByteArray := method_5_code
def yX0_sameWide : MethodName := ⟨RX0, "sameWide", "(LWholeFile;LWholeFile;I)Z"⟩
def dkwX0_sameWide_1 : List UInt8 := [132, 3, 1, 167, 255, 231, 4, 172]
abbrev dktX0_sameWide_1 : List UInt8 := dkwX0_sameWide_1 ++ []
def dkwX0_sameWide_0 : List UInt8 := [3, 62, 29, 5, 28, 104, 162, 0, 24, 42, 29, 182, 0, 28, 43, 29, 182, 0, 28, 159, 0, 5, 3, 172]
abbrev dktX0_sameWide_0 : List UInt8 := dkwX0_sameWide_0 ++ dktX0_sameWide_1
theorem dksX0_sameWide_0 : cX0_sameWide.data.toList.drop 0 = dktX0_sameWide_0 := by decide +kernel
theorem dksX0_sameWide_1 : cX0_sameWide.data.toList.drop 24 = dktX0_sameWide_1 := dk_seg dksX0_sameWide_0 24 rfl rfl
theorem dX0_sameWide_0 : decode cX0_sameWide 0 = .ok (.iconst 0, 1) := dk_3 (dk_at dksX0_sameWide_0 0 rfl rfl)
theorem dX0_sameWide_1 : decode cX0_sameWide 1 = .ok (.istore_n 3, 1) := dk_62 (dk_at dksX0_sameWide_0 1 rfl rfl)
theorem dX0_sameWide_2 : decode cX0_sameWide 2 = .ok (.iload_n 3, 1) := dk_29 (dk_at dksX0_sameWide_0 2 rfl rfl)
theorem dX0_sameWide_3 : decode cX0_sameWide 3 = .ok (.iconst 2, 1) := dk_5 (dk_at dksX0_sameWide_0 3 rfl rfl)
theorem dX0_sameWide_4 : decode cX0_sameWide 4 = .ok (.iload_n 2, 1) := dk_28 (dk_at dksX0_sameWide_0 4 rfl rfl)
theorem dX0_sameWide_5 : decode cX0_sameWide 5 = .ok (.imul, 1) := dk_104 (dk_at dksX0_sameWide_0 5 rfl rfl)
theorem dX0_sameWide_6 : decode cX0_sameWide 6 = .ok (.if_icmp .ge 24, 3) := dk_162 0 24 (dk_at dksX0_sameWide_0 6 rfl rfl)
theorem dX0_sameWide_9 : decode cX0_sameWide 9 = .ok (.aload_n 0, 1) := dk_42 (dk_at dksX0_sameWide_0 9 rfl rfl)
theorem dX0_sameWide_10 : decode cX0_sameWide 10 = .ok (.iload_n 3, 1) := dk_29 (dk_at dksX0_sameWide_0 10 rfl rfl)
theorem dX0_sameWide_11 : decode cX0_sameWide 11 = .ok (.invokevirtual 28, 3) := dk_182 0 28 (dk_at dksX0_sameWide_0 11 rfl rfl)
theorem dX0_sameWide_14 : decode cX0_sameWide 14 = .ok (.aload_n 1, 1) := dk_43 (dk_at dksX0_sameWide_0 14 rfl rfl)
theorem dX0_sameWide_15 : decode cX0_sameWide 15 = .ok (.iload_n 3, 1) := dk_29 (dk_at dksX0_sameWide_0 15 rfl rfl)
theorem dX0_sameWide_16 : decode cX0_sameWide 16 = .ok (.invokevirtual 28, 3) := dk_182 0 28 (dk_at dksX0_sameWide_0 16 rfl rfl)
theorem dX0_sameWide_19 : decode cX0_sameWide 19 = .ok (.if_icmp .eq 5, 3) := dk_159 0 5 (dk_at dksX0_sameWide_0 19 rfl rfl)
theorem dX0_sameWide_22 : decode cX0_sameWide 22 = .ok (.iconst 0, 1) := dk_3 (dk_at dksX0_sameWide_0 22 rfl rfl)
theorem dX0_sameWide_23 : decode cX0_sameWide 23 = .ok (.ireturn, 1) := dk_172 (dk_at dksX0_sameWide_0 23 rfl rfl)
theorem dX0_sameWide_24 : decode cX0_sameWide 24 = .ok (.iinc 3 1, 3) := dk_132 3 1 (dk_at dksX0_sameWide_1 0 rfl rfl)
theorem dX0_sameWide_27 : decode cX0_sameWide 27 = .ok (.goto (-25), 3) := dk_167 255 231 (dk_at dksX0_sameWide_1 3 rfl rfl)
theorem dX0_sameWide_30 : decode cX0_sameWide 30 = .ok (.iconst 1, 1) := dk_4 (dk_at dksX0_sameWide_1 6 rfl rfl)
theorem dX0_sameWide_31 : decode cX0_sameWide 31 = .ok (.ireturn, 1) := dk_172 (dk_at dksX0_sameWide_1 7 rfl rfl)
abbrev cX0_added : ByteArray := method_7_code
def yX0_added : MethodName := ⟨RX0, "added", "([I)Z"⟩
def dkwX0_added_15 : List UInt8 := [21, 7, 45, 21, 4, 182, 0, 28, 160, 0, 7, 4, 167, 0, 4, 3, 172]
abbrev dktX0_added_15 : List UInt8 := dkwX0_added_15 ++ []
def dkwX0_added_14 : List UInt8 := [6, 21, 10, 182, 0, 24, 45, 21, 10, 182, 0, 28, 159, 0, 5, 3, 172, 132, 10, 1, 167, 255, 228]
abbrev dktX0_added_14 : List UInt8 := dkwX0_added_14 ++ dktX0_added_15
def dkwX0_added_13 : List UInt8 := [182, 0, 36, 44, 6, 21, 5, 3, 182, 0, 95, 54, 7, 3, 54, 10, 21, 10, 21, 4, 162, 0, 27, 44]
abbrev dktX0_added_13 : List UInt8 := dkwX0_added_13 ++ dktX0_added_14
def dkwX0_added_12 : List UInt8 := [162, 0, 7, 3, 167, 0, 5, 21, 5, 3, 182, 0, 20, 132, 10, 1, 167, 255, 222, 45, 3, 5]
abbrev dktX0_added_12 : List UInt8 := dkwX0_added_12 ++ dktX0_added_13
def dkwX0_added_11 : List UInt8 := [182, 0, 20, 6, 54, 10, 21, 10, 21, 4, 162, 0, 33, 45, 5, 21, 10, 3, 21, 10, 4, 96, 21, 4]
abbrev dktX0_added_11 : List UInt8 := dkwX0_added_11 ++ dktX0_added_12
def dkwX0_added_10 : List UInt8 := [4, 160, 0, 8, 21, 5, 167, 0, 4, 3, 21, 4, 6, 162, 0, 8, 21, 5, 167, 0, 4, 3]
abbrev dktX0_added_10 : List UInt8 := dkwX0_added_10 ++ dktX0_added_11
def dkwX0_added_9 : List UInt8 := [21, 10, 96, 182, 0, 28, 159, 0, 5, 3, 172, 132, 10, 1, 167, 255, 194, 45, 5, 3, 21, 5, 21, 4]
abbrev dktX0_added_9 : List UInt8 := dkwX0_added_9 ++ dktX0_added_10
def dkwX0_added_8 : List UInt8 := [96, 182, 0, 28, 160, 0, 29, 43, 4, 21, 10, 182, 0, 24, 43, 21, 6, 4, 96, 4, 126, 21, 4, 104]
abbrev dktX0_added_8 : List UInt8 := dkwX0_added_8 ++ dktX0_added_9
def dkwX0_added_7 : List UInt8 := [21, 10, 21, 4, 162, 0, 61, 43, 6, 21, 10, 182, 0, 24, 43, 21, 6, 4, 126, 21, 4, 104, 21, 10]
abbrev dktX0_added_7 : List UInt8 := dkwX0_added_7 ++ dktX0_added_8
def dkwX0_added_6 : List UInt8 := [159, 0, 5, 3, 172, 43, 6, 21, 6, 182, 0, 92, 43, 4, 21, 6, 4, 96, 182, 0, 92, 3, 54, 10]
abbrev dktX0_added_6 : List UInt8 := dkwX0_added_6 ++ dktX0_added_7
def dkwX0_added_5 : List UInt8 := [159, 0, 5, 3, 172, 22, 8, 16, 32, 125, 55, 8, 132, 10, 1, 167, 255, 195, 21, 7, 22, 8, 136]
abbrev dktX0_added_5 : List UInt8 := dkwX0_added_5 ++ dktX0_added_6
def dkwX0_added_4 : List UInt8 := [45, 21, 10, 182, 0, 28, 133, 20, 0, 40, 127, 97, 97, 55, 8, 43, 21, 10, 182, 0, 28, 22, 8, 136]
abbrev dktX0_added_4 : List UInt8 := dkwX0_added_4 ++ dktX0_added_5
def dkwX0_added_3 : List UInt8 := [54, 10, 21, 10, 5, 21, 4, 104, 162, 0, 58, 22, 8, 44, 21, 10, 182, 0, 28, 133, 20, 0, 40, 127]
abbrev dktX0_added_3 : List UInt8 := dkwX0_added_3 ++ dktX0_added_4
def dkwX0_added_2 : List UInt8 := [44, 3, 4, 182, 0, 36, 45, 3, 5, 182, 0, 36, 43, 3, 5, 182, 0, 63, 54, 7, 9, 55, 8, 3]
abbrev dktX0_added_2 : List UInt8 := dkwX0_added_2 ++ dktX0_added_3
def dkwX0_added_1 : List UInt8 := [96, 54, 4, 42, 16, 17, 184, 0, 10, 54, 5, 42, 5, 184, 0, 10, 54, 6, 43, 3, 4, 182, 0, 36]
abbrev dktX0_added_1 : List UInt8 := dkwX0_added_1 ++ dktX0_added_2
def dkwX0_added_0 : List UInt8 := [42, 184, 0, 32, 76, 42, 184, 0, 32, 77, 42, 184, 0, 32, 78, 4, 42, 3, 184, 0, 10, 16, 15, 126]
abbrev dktX0_added_0 : List UInt8 := dkwX0_added_0 ++ dktX0_added_1
theorem dksX0_added_0 : cX0_added.data.toList.drop 0 = dktX0_added_0 := by decide +kernel
theorem dksX0_added_1 : cX0_added.data.toList.drop 24 = dktX0_added_1 := dk_seg dksX0_added_0 24 rfl rfl
theorem dksX0_added_2 : cX0_added.data.toList.drop 48 = dktX0_added_2 := dk_seg dksX0_added_1 24 rfl rfl
theorem dksX0_added_3 : cX0_added.data.toList.drop 72 = dktX0_added_3 := dk_seg dksX0_added_2 24 rfl rfl
theorem dksX0_added_4 : cX0_added.data.toList.drop 96 = dktX0_added_4 := dk_seg dksX0_added_3 24 rfl rfl
theorem dksX0_added_5 : cX0_added.data.toList.drop 120 = dktX0_added_5 := dk_seg dksX0_added_4 24 rfl rfl
theorem dksX0_added_6 : cX0_added.data.toList.drop 143 = dktX0_added_6 := dk_seg dksX0_added_5 23 rfl rfl
theorem dksX0_added_7 : cX0_added.data.toList.drop 167 = dktX0_added_7 := dk_seg dksX0_added_6 24 rfl rfl
theorem dksX0_added_8 : cX0_added.data.toList.drop 191 = dktX0_added_8 := dk_seg dksX0_added_7 24 rfl rfl
theorem dksX0_added_9 : cX0_added.data.toList.drop 215 = dktX0_added_9 := dk_seg dksX0_added_8 24 rfl rfl
theorem dksX0_added_10 : cX0_added.data.toList.drop 239 = dktX0_added_10 := dk_seg dksX0_added_9 24 rfl rfl
theorem dksX0_added_11 : cX0_added.data.toList.drop 261 = dktX0_added_11 := dk_seg dksX0_added_10 22 rfl rfl
theorem dksX0_added_12 : cX0_added.data.toList.drop 285 = dktX0_added_12 := dk_seg dksX0_added_11 24 rfl rfl
theorem dksX0_added_13 : cX0_added.data.toList.drop 307 = dktX0_added_13 := dk_seg dksX0_added_12 22 rfl rfl
theorem dksX0_added_14 : cX0_added.data.toList.drop 331 = dktX0_added_14 := dk_seg dksX0_added_13 24 rfl rfl
theorem dksX0_added_15 : cX0_added.data.toList.drop 354 = dktX0_added_15 := dk_seg dksX0_added_14 23 rfl rfl
theorem dX0_added_0 : decode cX0_added 0 = .ok (.aload_n 0, 1) := dk_42 (dk_at dksX0_added_0 0 rfl rfl)
theorem dX0_added_1 : decode cX0_added 1 = .ok (.invokestatic 32, 3) := dk_184 0 32 (dk_at dksX0_added_0 1 rfl rfl)
theorem dX0_added_4 : decode cX0_added 4 = .ok (.astore_n 1, 1) := dk_76 (dk_at dksX0_added_0 4 rfl rfl)
theorem dX0_added_5 : decode cX0_added 5 = .ok (.aload_n 0, 1) := dk_42 (dk_at dksX0_added_0 5 rfl rfl)
theorem dX0_added_6 : decode cX0_added 6 = .ok (.invokestatic 32, 3) := dk_184 0 32 (dk_at dksX0_added_0 6 rfl rfl)
theorem dX0_added_9 : decode cX0_added 9 = .ok (.astore_n 2, 1) := dk_77 (dk_at dksX0_added_0 9 rfl rfl)
theorem dX0_added_10 : decode cX0_added 10 = .ok (.aload_n 0, 1) := dk_42 (dk_at dksX0_added_0 10 rfl rfl)
theorem dX0_added_11 : decode cX0_added 11 = .ok (.invokestatic 32, 3) := dk_184 0 32 (dk_at dksX0_added_0 11 rfl rfl)
theorem dX0_added_14 : decode cX0_added 14 = .ok (.astore_n 3, 1) := dk_78 (dk_at dksX0_added_0 14 rfl rfl)
theorem dX0_added_15 : decode cX0_added 15 = .ok (.iconst 1, 1) := dk_4 (dk_at dksX0_added_0 15 rfl rfl)
theorem dX0_added_16 : decode cX0_added 16 = .ok (.aload_n 0, 1) := dk_42 (dk_at dksX0_added_0 16 rfl rfl)
theorem dX0_added_17 : decode cX0_added 17 = .ok (.iconst 0, 1) := dk_3 (dk_at dksX0_added_0 17 rfl rfl)
theorem dX0_added_18 : decode cX0_added 18 = .ok (.invokestatic 10, 3) := dk_184 0 10 (dk_at dksX0_added_0 18 rfl rfl)
theorem dX0_added_21 : decode cX0_added 21 = .ok (.bipush 15, 2) := dk_16 15 (dk_at dksX0_added_0 21 rfl rfl)
theorem dX0_added_23 : decode cX0_added 23 = .ok (.iand, 1) := dk_126 (dk_at dksX0_added_0 23 rfl rfl)
theorem dX0_added_24 : decode cX0_added 24 = .ok (.iadd, 1) := dk_96 (dk_at dksX0_added_1 0 rfl rfl)
theorem dX0_added_25 : decode cX0_added 25 = .ok (.istore 4, 2) := dk_54 4 (dk_at dksX0_added_1 1 rfl rfl)
theorem dX0_added_27 : decode cX0_added 27 = .ok (.aload_n 0, 1) := dk_42 (dk_at dksX0_added_1 3 rfl rfl)
theorem dX0_added_28 : decode cX0_added 28 = .ok (.bipush 17, 2) := dk_16 17 (dk_at dksX0_added_1 4 rfl rfl)
theorem dX0_added_30 : decode cX0_added 30 = .ok (.invokestatic 10, 3) := dk_184 0 10 (dk_at dksX0_added_1 6 rfl rfl)
theorem dX0_added_33 : decode cX0_added 33 = .ok (.istore 5, 2) := dk_54 5 (dk_at dksX0_added_1 9 rfl rfl)
theorem dX0_added_35 : decode cX0_added 35 = .ok (.aload_n 0, 1) := dk_42 (dk_at dksX0_added_1 11 rfl rfl)
theorem dX0_added_36 : decode cX0_added 36 = .ok (.iconst 2, 1) := dk_5 (dk_at dksX0_added_1 12 rfl rfl)
theorem dX0_added_37 : decode cX0_added 37 = .ok (.invokestatic 10, 3) := dk_184 0 10 (dk_at dksX0_added_1 13 rfl rfl)
theorem dX0_added_40 : decode cX0_added 40 = .ok (.istore 6, 2) := dk_54 6 (dk_at dksX0_added_1 16 rfl rfl)
theorem dX0_added_42 : decode cX0_added 42 = .ok (.aload_n 1, 1) := dk_43 (dk_at dksX0_added_1 18 rfl rfl)
theorem dX0_added_43 : decode cX0_added 43 = .ok (.iconst 0, 1) := dk_3 (dk_at dksX0_added_1 19 rfl rfl)
theorem dX0_added_44 : decode cX0_added 44 = .ok (.iconst 1, 1) := dk_4 (dk_at dksX0_added_1 20 rfl rfl)
theorem dX0_added_45 : decode cX0_added 45 = .ok (.invokevirtual 36, 3) := dk_182 0 36 (dk_at dksX0_added_1 21 rfl rfl)
theorem dX0_added_48 : decode cX0_added 48 = .ok (.aload_n 2, 1) := dk_44 (dk_at dksX0_added_2 0 rfl rfl)
theorem dX0_added_49 : decode cX0_added 49 = .ok (.iconst 0, 1) := dk_3 (dk_at dksX0_added_2 1 rfl rfl)
theorem dX0_added_50 : decode cX0_added 50 = .ok (.iconst 1, 1) := dk_4 (dk_at dksX0_added_2 2 rfl rfl)
theorem dX0_added_51 : decode cX0_added 51 = .ok (.invokevirtual 36, 3) := dk_182 0 36 (dk_at dksX0_added_2 3 rfl rfl)
theorem dX0_added_54 : decode cX0_added 54 = .ok (.aload_n 3, 1) := dk_45 (dk_at dksX0_added_2 6 rfl rfl)
theorem dX0_added_55 : decode cX0_added 55 = .ok (.iconst 0, 1) := dk_3 (dk_at dksX0_added_2 7 rfl rfl)
theorem dX0_added_56 : decode cX0_added 56 = .ok (.iconst 2, 1) := dk_5 (dk_at dksX0_added_2 8 rfl rfl)
theorem dX0_added_57 : decode cX0_added 57 = .ok (.invokevirtual 36, 3) := dk_182 0 36 (dk_at dksX0_added_2 9 rfl rfl)
theorem dX0_added_60 : decode cX0_added 60 = .ok (.aload_n 1, 1) := dk_43 (dk_at dksX0_added_2 12 rfl rfl)
theorem dX0_added_61 : decode cX0_added 61 = .ok (.iconst 0, 1) := dk_3 (dk_at dksX0_added_2 13 rfl rfl)
theorem dX0_added_62 : decode cX0_added 62 = .ok (.iconst 2, 1) := dk_5 (dk_at dksX0_added_2 14 rfl rfl)
theorem dX0_added_63 : decode cX0_added 63 = .ok (.invokevirtual 63, 3) := dk_182 0 63 (dk_at dksX0_added_2 15 rfl rfl)
theorem dX0_added_66 : decode cX0_added 66 = .ok (.istore 7, 2) := dk_54 7 (dk_at dksX0_added_2 18 rfl rfl)
theorem dX0_added_68 : decode cX0_added 68 = .ok (.lconst 0, 1) := dk_9 (dk_at dksX0_added_2 20 rfl rfl)
theorem dX0_added_69 : decode cX0_added 69 = .ok (.lstore 8, 2) := dk_55 8 (dk_at dksX0_added_2 21 rfl rfl)
theorem dX0_added_71 : decode cX0_added 71 = .ok (.iconst 0, 1) := dk_3 (dk_at dksX0_added_2 23 rfl rfl)
theorem dX0_added_72 : decode cX0_added 72 = .ok (.istore 10, 2) := dk_54 10 (dk_at dksX0_added_3 0 rfl rfl)
theorem dX0_added_74 : decode cX0_added 74 = .ok (.iload 10, 2) := dk_21 10 (dk_at dksX0_added_3 2 rfl rfl)
theorem dX0_added_76 : decode cX0_added 76 = .ok (.iconst 2, 1) := dk_5 (dk_at dksX0_added_3 4 rfl rfl)
theorem dX0_added_77 : decode cX0_added 77 = .ok (.iload 4, 2) := dk_21 4 (dk_at dksX0_added_3 5 rfl rfl)
theorem dX0_added_79 : decode cX0_added 79 = .ok (.imul, 1) := dk_104 (dk_at dksX0_added_3 7 rfl rfl)
theorem dX0_added_80 : decode cX0_added 80 = .ok (.if_icmp .ge 58, 3) := dk_162 0 58 (dk_at dksX0_added_3 8 rfl rfl)
theorem dX0_added_83 : decode cX0_added 83 = .ok (.lload 8, 2) := dk_22 8 (dk_at dksX0_added_3 11 rfl rfl)
theorem dX0_added_85 : decode cX0_added 85 = .ok (.aload_n 2, 1) := dk_44 (dk_at dksX0_added_3 13 rfl rfl)
theorem dX0_added_86 : decode cX0_added 86 = .ok (.iload 10, 2) := dk_21 10 (dk_at dksX0_added_3 14 rfl rfl)
theorem dX0_added_88 : decode cX0_added 88 = .ok (.invokevirtual 28, 3) := dk_182 0 28 (dk_at dksX0_added_3 16 rfl rfl)
theorem dX0_added_91 : decode cX0_added 91 = .ok (.i2l, 1) := dk_133 (dk_at dksX0_added_3 19 rfl rfl)
theorem dX0_added_92 : decode cX0_added 92 = .ok (.ldc2_w 40, 3) := dk_20 0 40 (dk_at dksX0_added_3 20 rfl rfl)
theorem dX0_added_95 : decode cX0_added 95 = .ok (.land, 1) := dk_127 (dk_at dksX0_added_3 23 rfl rfl)
theorem dX0_added_96 : decode cX0_added 96 = .ok (.aload_n 3, 1) := dk_45 (dk_at dksX0_added_4 0 rfl rfl)
theorem dX0_added_97 : decode cX0_added 97 = .ok (.iload 10, 2) := dk_21 10 (dk_at dksX0_added_4 1 rfl rfl)
theorem dX0_added_99 : decode cX0_added 99 = .ok (.invokevirtual 28, 3) := dk_182 0 28 (dk_at dksX0_added_4 3 rfl rfl)
theorem dX0_added_102 : decode cX0_added 102 = .ok (.i2l, 1) := dk_133 (dk_at dksX0_added_4 6 rfl rfl)
theorem dX0_added_103 : decode cX0_added 103 = .ok (.ldc2_w 40, 3) := dk_20 0 40 (dk_at dksX0_added_4 7 rfl rfl)
theorem dX0_added_106 : decode cX0_added 106 = .ok (.land, 1) := dk_127 (dk_at dksX0_added_4 10 rfl rfl)
theorem dX0_added_107 : decode cX0_added 107 = .ok (.ladd, 1) := dk_97 (dk_at dksX0_added_4 11 rfl rfl)
theorem dX0_added_108 : decode cX0_added 108 = .ok (.ladd, 1) := dk_97 (dk_at dksX0_added_4 12 rfl rfl)
theorem dX0_added_109 : decode cX0_added 109 = .ok (.lstore 8, 2) := dk_55 8 (dk_at dksX0_added_4 13 rfl rfl)
theorem dX0_added_111 : decode cX0_added 111 = .ok (.aload_n 1, 1) := dk_43 (dk_at dksX0_added_4 15 rfl rfl)
theorem dX0_added_112 : decode cX0_added 112 = .ok (.iload 10, 2) := dk_21 10 (dk_at dksX0_added_4 16 rfl rfl)
theorem dX0_added_114 : decode cX0_added 114 = .ok (.invokevirtual 28, 3) := dk_182 0 28 (dk_at dksX0_added_4 18 rfl rfl)
theorem dX0_added_117 : decode cX0_added 117 = .ok (.lload 8, 2) := dk_22 8 (dk_at dksX0_added_4 21 rfl rfl)
theorem dX0_added_119 : decode cX0_added 119 = .ok (.l2i, 1) := dk_136 (dk_at dksX0_added_4 23 rfl rfl)
theorem dX0_added_120 : decode cX0_added 120 = .ok (.if_icmp .eq 5, 3) := dk_159 0 5 (dk_at dksX0_added_5 0 rfl rfl)
theorem dX0_added_123 : decode cX0_added 123 = .ok (.iconst 0, 1) := dk_3 (dk_at dksX0_added_5 3 rfl rfl)
theorem dX0_added_124 : decode cX0_added 124 = .ok (.ireturn, 1) := dk_172 (dk_at dksX0_added_5 4 rfl rfl)
theorem dX0_added_125 : decode cX0_added 125 = .ok (.lload 8, 2) := dk_22 8 (dk_at dksX0_added_5 5 rfl rfl)
theorem dX0_added_127 : decode cX0_added 127 = .ok (.bipush 32, 2) := dk_16 32 (dk_at dksX0_added_5 7 rfl rfl)
theorem dX0_added_129 : decode cX0_added 129 = .ok (.lushr, 1) := dk_125 (dk_at dksX0_added_5 9 rfl rfl)
theorem dX0_added_130 : decode cX0_added 130 = .ok (.lstore 8, 2) := dk_55 8 (dk_at dksX0_added_5 10 rfl rfl)
theorem dX0_added_132 : decode cX0_added 132 = .ok (.iinc 10 1, 3) := dk_132 10 1 (dk_at dksX0_added_5 12 rfl rfl)
theorem dX0_added_135 : decode cX0_added 135 = .ok (.goto (-61), 3) := dk_167 255 195 (dk_at dksX0_added_5 15 rfl rfl)
theorem dX0_added_138 : decode cX0_added 138 = .ok (.iload 7, 2) := dk_21 7 (dk_at dksX0_added_5 18 rfl rfl)
theorem dX0_added_140 : decode cX0_added 140 = .ok (.lload 8, 2) := dk_22 8 (dk_at dksX0_added_5 20 rfl rfl)
theorem dX0_added_142 : decode cX0_added 142 = .ok (.l2i, 1) := dk_136 (dk_at dksX0_added_5 22 rfl rfl)
theorem dX0_added_143 : decode cX0_added 143 = .ok (.if_icmp .eq 5, 3) := dk_159 0 5 (dk_at dksX0_added_6 0 rfl rfl)
theorem dX0_added_146 : decode cX0_added 146 = .ok (.iconst 0, 1) := dk_3 (dk_at dksX0_added_6 3 rfl rfl)
theorem dX0_added_147 : decode cX0_added 147 = .ok (.ireturn, 1) := dk_172 (dk_at dksX0_added_6 4 rfl rfl)
theorem dX0_added_148 : decode cX0_added 148 = .ok (.aload_n 1, 1) := dk_43 (dk_at dksX0_added_6 5 rfl rfl)
theorem dX0_added_149 : decode cX0_added 149 = .ok (.iconst 3, 1) := dk_6 (dk_at dksX0_added_6 6 rfl rfl)
theorem dX0_added_150 : decode cX0_added 150 = .ok (.iload 6, 2) := dk_21 6 (dk_at dksX0_added_6 7 rfl rfl)
theorem dX0_added_152 : decode cX0_added 152 = .ok (.invokevirtual 92, 3) := dk_182 0 92 (dk_at dksX0_added_6 9 rfl rfl)
theorem dX0_added_155 : decode cX0_added 155 = .ok (.aload_n 1, 1) := dk_43 (dk_at dksX0_added_6 12 rfl rfl)
theorem dX0_added_156 : decode cX0_added 156 = .ok (.iconst 1, 1) := dk_4 (dk_at dksX0_added_6 13 rfl rfl)
theorem dX0_added_157 : decode cX0_added 157 = .ok (.iload 6, 2) := dk_21 6 (dk_at dksX0_added_6 14 rfl rfl)
theorem dX0_added_159 : decode cX0_added 159 = .ok (.iconst 1, 1) := dk_4 (dk_at dksX0_added_6 16 rfl rfl)
theorem dX0_added_160 : decode cX0_added 160 = .ok (.iadd, 1) := dk_96 (dk_at dksX0_added_6 17 rfl rfl)
theorem dX0_added_161 : decode cX0_added 161 = .ok (.invokevirtual 92, 3) := dk_182 0 92 (dk_at dksX0_added_6 18 rfl rfl)
theorem dX0_added_164 : decode cX0_added 164 = .ok (.iconst 0, 1) := dk_3 (dk_at dksX0_added_6 21 rfl rfl)
theorem dX0_added_165 : decode cX0_added 165 = .ok (.istore 10, 2) := dk_54 10 (dk_at dksX0_added_6 22 rfl rfl)
theorem dX0_added_167 : decode cX0_added 167 = .ok (.iload 10, 2) := dk_21 10 (dk_at dksX0_added_7 0 rfl rfl)
theorem dX0_added_169 : decode cX0_added 169 = .ok (.iload 4, 2) := dk_21 4 (dk_at dksX0_added_7 2 rfl rfl)
theorem dX0_added_171 : decode cX0_added 171 = .ok (.if_icmp .ge 61, 3) := dk_162 0 61 (dk_at dksX0_added_7 4 rfl rfl)
theorem dX0_added_174 : decode cX0_added 174 = .ok (.aload_n 1, 1) := dk_43 (dk_at dksX0_added_7 7 rfl rfl)
theorem dX0_added_175 : decode cX0_added 175 = .ok (.iconst 3, 1) := dk_6 (dk_at dksX0_added_7 8 rfl rfl)
theorem dX0_added_176 : decode cX0_added 176 = .ok (.iload 10, 2) := dk_21 10 (dk_at dksX0_added_7 9 rfl rfl)
theorem dX0_added_178 : decode cX0_added 178 = .ok (.invokevirtual 24, 3) := dk_182 0 24 (dk_at dksX0_added_7 11 rfl rfl)
theorem dX0_added_181 : decode cX0_added 181 = .ok (.aload_n 1, 1) := dk_43 (dk_at dksX0_added_7 14 rfl rfl)
theorem dX0_added_182 : decode cX0_added 182 = .ok (.iload 6, 2) := dk_21 6 (dk_at dksX0_added_7 15 rfl rfl)
theorem dX0_added_184 : decode cX0_added 184 = .ok (.iconst 1, 1) := dk_4 (dk_at dksX0_added_7 17 rfl rfl)
theorem dX0_added_185 : decode cX0_added 185 = .ok (.iand, 1) := dk_126 (dk_at dksX0_added_7 18 rfl rfl)
theorem dX0_added_186 : decode cX0_added 186 = .ok (.iload 4, 2) := dk_21 4 (dk_at dksX0_added_7 19 rfl rfl)
theorem dX0_added_188 : decode cX0_added 188 = .ok (.imul, 1) := dk_104 (dk_at dksX0_added_7 21 rfl rfl)
theorem dX0_added_189 : decode cX0_added 189 = .ok (.iload 10, 2) := dk_21 10 (dk_at dksX0_added_7 22 rfl rfl)
theorem dX0_added_191 : decode cX0_added 191 = .ok (.iadd, 1) := dk_96 (dk_at dksX0_added_8 0 rfl rfl)
theorem dX0_added_192 : decode cX0_added 192 = .ok (.invokevirtual 28, 3) := dk_182 0 28 (dk_at dksX0_added_8 1 rfl rfl)
theorem dX0_added_195 : decode cX0_added 195 = .ok (.if_icmp .ne 29, 3) := dk_160 0 29 (dk_at dksX0_added_8 4 rfl rfl)
theorem dX0_added_198 : decode cX0_added 198 = .ok (.aload_n 1, 1) := dk_43 (dk_at dksX0_added_8 7 rfl rfl)
theorem dX0_added_199 : decode cX0_added 199 = .ok (.iconst 1, 1) := dk_4 (dk_at dksX0_added_8 8 rfl rfl)
theorem dX0_added_200 : decode cX0_added 200 = .ok (.iload 10, 2) := dk_21 10 (dk_at dksX0_added_8 9 rfl rfl)
theorem dX0_added_202 : decode cX0_added 202 = .ok (.invokevirtual 24, 3) := dk_182 0 24 (dk_at dksX0_added_8 11 rfl rfl)
theorem dX0_added_205 : decode cX0_added 205 = .ok (.aload_n 1, 1) := dk_43 (dk_at dksX0_added_8 14 rfl rfl)
theorem dX0_added_206 : decode cX0_added 206 = .ok (.iload 6, 2) := dk_21 6 (dk_at dksX0_added_8 15 rfl rfl)
theorem dX0_added_208 : decode cX0_added 208 = .ok (.iconst 1, 1) := dk_4 (dk_at dksX0_added_8 17 rfl rfl)
theorem dX0_added_209 : decode cX0_added 209 = .ok (.iadd, 1) := dk_96 (dk_at dksX0_added_8 18 rfl rfl)
theorem dX0_added_210 : decode cX0_added 210 = .ok (.iconst 1, 1) := dk_4 (dk_at dksX0_added_8 19 rfl rfl)
theorem dX0_added_211 : decode cX0_added 211 = .ok (.iand, 1) := dk_126 (dk_at dksX0_added_8 20 rfl rfl)
theorem dX0_added_212 : decode cX0_added 212 = .ok (.iload 4, 2) := dk_21 4 (dk_at dksX0_added_8 21 rfl rfl)
theorem dX0_added_214 : decode cX0_added 214 = .ok (.imul, 1) := dk_104 (dk_at dksX0_added_8 23 rfl rfl)
theorem dX0_added_215 : decode cX0_added 215 = .ok (.iload 10, 2) := dk_21 10 (dk_at dksX0_added_9 0 rfl rfl)
theorem dX0_added_217 : decode cX0_added 217 = .ok (.iadd, 1) := dk_96 (dk_at dksX0_added_9 2 rfl rfl)
theorem dX0_added_218 : decode cX0_added 218 = .ok (.invokevirtual 28, 3) := dk_182 0 28 (dk_at dksX0_added_9 3 rfl rfl)
theorem dX0_added_221 : decode cX0_added 221 = .ok (.if_icmp .eq 5, 3) := dk_159 0 5 (dk_at dksX0_added_9 6 rfl rfl)
theorem dX0_added_224 : decode cX0_added 224 = .ok (.iconst 0, 1) := dk_3 (dk_at dksX0_added_9 9 rfl rfl)
theorem dX0_added_225 : decode cX0_added 225 = .ok (.ireturn, 1) := dk_172 (dk_at dksX0_added_9 10 rfl rfl)
theorem dX0_added_226 : decode cX0_added 226 = .ok (.iinc 10 1, 3) := dk_132 10 1 (dk_at dksX0_added_9 11 rfl rfl)
theorem dX0_added_229 : decode cX0_added 229 = .ok (.goto (-62), 3) := dk_167 255 194 (dk_at dksX0_added_9 14 rfl rfl)
theorem dX0_added_232 : decode cX0_added 232 = .ok (.aload_n 3, 1) := dk_45 (dk_at dksX0_added_9 17 rfl rfl)
theorem dX0_added_233 : decode cX0_added 233 = .ok (.iconst 2, 1) := dk_5 (dk_at dksX0_added_9 18 rfl rfl)
theorem dX0_added_234 : decode cX0_added 234 = .ok (.iconst 0, 1) := dk_3 (dk_at dksX0_added_9 19 rfl rfl)
theorem dX0_added_235 : decode cX0_added 235 = .ok (.iload 5, 2) := dk_21 5 (dk_at dksX0_added_9 20 rfl rfl)
theorem dX0_added_237 : decode cX0_added 237 = .ok (.iload 4, 2) := dk_21 4 (dk_at dksX0_added_9 22 rfl rfl)
theorem dX0_added_239 : decode cX0_added 239 = .ok (.iconst 1, 1) := dk_4 (dk_at dksX0_added_10 0 rfl rfl)
theorem dX0_added_240 : decode cX0_added 240 = .ok (.if_icmp .ne 8, 3) := dk_160 0 8 (dk_at dksX0_added_10 1 rfl rfl)
theorem dX0_added_243 : decode cX0_added 243 = .ok (.iload 5, 2) := dk_21 5 (dk_at dksX0_added_10 4 rfl rfl)
theorem dX0_added_245 : decode cX0_added 245 = .ok (.goto 4, 3) := dk_167 0 4 (dk_at dksX0_added_10 6 rfl rfl)
theorem dX0_added_248 : decode cX0_added 248 = .ok (.iconst 0, 1) := dk_3 (dk_at dksX0_added_10 9 rfl rfl)
theorem dX0_added_249 : decode cX0_added 249 = .ok (.iload 4, 2) := dk_21 4 (dk_at dksX0_added_10 10 rfl rfl)
theorem dX0_added_251 : decode cX0_added 251 = .ok (.iconst 3, 1) := dk_6 (dk_at dksX0_added_10 12 rfl rfl)
theorem dX0_added_252 : decode cX0_added 252 = .ok (.if_icmp .ge 8, 3) := dk_162 0 8 (dk_at dksX0_added_10 13 rfl rfl)
theorem dX0_added_255 : decode cX0_added 255 = .ok (.iload 5, 2) := dk_21 5 (dk_at dksX0_added_10 16 rfl rfl)
theorem dX0_added_257 : decode cX0_added 257 = .ok (.goto 4, 3) := dk_167 0 4 (dk_at dksX0_added_10 18 rfl rfl)
theorem dX0_added_260 : decode cX0_added 260 = .ok (.iconst 0, 1) := dk_3 (dk_at dksX0_added_10 21 rfl rfl)
theorem dX0_added_261 : decode cX0_added 261 = .ok (.invokevirtual 20, 3) := dk_182 0 20 (dk_at dksX0_added_11 0 rfl rfl)
theorem dX0_added_264 : decode cX0_added 264 = .ok (.iconst 3, 1) := dk_6 (dk_at dksX0_added_11 3 rfl rfl)
theorem dX0_added_265 : decode cX0_added 265 = .ok (.istore 10, 2) := dk_54 10 (dk_at dksX0_added_11 4 rfl rfl)
theorem dX0_added_267 : decode cX0_added 267 = .ok (.iload 10, 2) := dk_21 10 (dk_at dksX0_added_11 6 rfl rfl)
theorem dX0_added_269 : decode cX0_added 269 = .ok (.iload 4, 2) := dk_21 4 (dk_at dksX0_added_11 8 rfl rfl)
theorem dX0_added_271 : decode cX0_added 271 = .ok (.if_icmp .ge 33, 3) := dk_162 0 33 (dk_at dksX0_added_11 10 rfl rfl)
theorem dX0_added_274 : decode cX0_added 274 = .ok (.aload_n 3, 1) := dk_45 (dk_at dksX0_added_11 13 rfl rfl)
theorem dX0_added_275 : decode cX0_added 275 = .ok (.iconst 2, 1) := dk_5 (dk_at dksX0_added_11 14 rfl rfl)
theorem dX0_added_276 : decode cX0_added 276 = .ok (.iload 10, 2) := dk_21 10 (dk_at dksX0_added_11 15 rfl rfl)
theorem dX0_added_278 : decode cX0_added 278 = .ok (.iconst 0, 1) := dk_3 (dk_at dksX0_added_11 17 rfl rfl)
theorem dX0_added_279 : decode cX0_added 279 = .ok (.iload 10, 2) := dk_21 10 (dk_at dksX0_added_11 18 rfl rfl)
theorem dX0_added_281 : decode cX0_added 281 = .ok (.iconst 1, 1) := dk_4 (dk_at dksX0_added_11 20 rfl rfl)
theorem dX0_added_282 : decode cX0_added 282 = .ok (.iadd, 1) := dk_96 (dk_at dksX0_added_11 21 rfl rfl)
theorem dX0_added_283 : decode cX0_added 283 = .ok (.iload 4, 2) := dk_21 4 (dk_at dksX0_added_11 22 rfl rfl)
theorem dX0_added_285 : decode cX0_added 285 = .ok (.if_icmp .ge 7, 3) := dk_162 0 7 (dk_at dksX0_added_12 0 rfl rfl)
theorem dX0_added_288 : decode cX0_added 288 = .ok (.iconst 0, 1) := dk_3 (dk_at dksX0_added_12 3 rfl rfl)
theorem dX0_added_289 : decode cX0_added 289 = .ok (.goto 5, 3) := dk_167 0 5 (dk_at dksX0_added_12 4 rfl rfl)
theorem dX0_added_292 : decode cX0_added 292 = .ok (.iload 5, 2) := dk_21 5 (dk_at dksX0_added_12 7 rfl rfl)
theorem dX0_added_294 : decode cX0_added 294 = .ok (.iconst 0, 1) := dk_3 (dk_at dksX0_added_12 9 rfl rfl)
theorem dX0_added_295 : decode cX0_added 295 = .ok (.invokevirtual 20, 3) := dk_182 0 20 (dk_at dksX0_added_12 10 rfl rfl)
theorem dX0_added_298 : decode cX0_added 298 = .ok (.iinc 10 1, 3) := dk_132 10 1 (dk_at dksX0_added_12 13 rfl rfl)
theorem dX0_added_301 : decode cX0_added 301 = .ok (.goto (-34), 3) := dk_167 255 222 (dk_at dksX0_added_12 16 rfl rfl)
theorem dX0_added_304 : decode cX0_added 304 = .ok (.aload_n 3, 1) := dk_45 (dk_at dksX0_added_12 19 rfl rfl)
theorem dX0_added_305 : decode cX0_added 305 = .ok (.iconst 0, 1) := dk_3 (dk_at dksX0_added_12 20 rfl rfl)
theorem dX0_added_306 : decode cX0_added 306 = .ok (.iconst 2, 1) := dk_5 (dk_at dksX0_added_12 21 rfl rfl)
theorem dX0_added_307 : decode cX0_added 307 = .ok (.invokevirtual 36, 3) := dk_182 0 36 (dk_at dksX0_added_13 0 rfl rfl)
theorem dX0_added_310 : decode cX0_added 310 = .ok (.aload_n 2, 1) := dk_44 (dk_at dksX0_added_13 3 rfl rfl)
theorem dX0_added_311 : decode cX0_added 311 = .ok (.iconst 3, 1) := dk_6 (dk_at dksX0_added_13 4 rfl rfl)
theorem dX0_added_312 : decode cX0_added 312 = .ok (.iload 5, 2) := dk_21 5 (dk_at dksX0_added_13 5 rfl rfl)
theorem dX0_added_314 : decode cX0_added 314 = .ok (.iconst 0, 1) := dk_3 (dk_at dksX0_added_13 7 rfl rfl)
theorem dX0_added_315 : decode cX0_added 315 = .ok (.invokevirtual 95, 3) := dk_182 0 95 (dk_at dksX0_added_13 8 rfl rfl)
theorem dX0_added_318 : decode cX0_added 318 = .ok (.istore 7, 2) := dk_54 7 (dk_at dksX0_added_13 11 rfl rfl)
theorem dX0_added_320 : decode cX0_added 320 = .ok (.iconst 0, 1) := dk_3 (dk_at dksX0_added_13 13 rfl rfl)
theorem dX0_added_321 : decode cX0_added 321 = .ok (.istore 10, 2) := dk_54 10 (dk_at dksX0_added_13 14 rfl rfl)
theorem dX0_added_323 : decode cX0_added 323 = .ok (.iload 10, 2) := dk_21 10 (dk_at dksX0_added_13 16 rfl rfl)
theorem dX0_added_325 : decode cX0_added 325 = .ok (.iload 4, 2) := dk_21 4 (dk_at dksX0_added_13 18 rfl rfl)
theorem dX0_added_327 : decode cX0_added 327 = .ok (.if_icmp .ge 27, 3) := dk_162 0 27 (dk_at dksX0_added_13 20 rfl rfl)
theorem dX0_added_330 : decode cX0_added 330 = .ok (.aload_n 2, 1) := dk_44 (dk_at dksX0_added_13 23 rfl rfl)
theorem dX0_added_331 : decode cX0_added 331 = .ok (.iconst 3, 1) := dk_6 (dk_at dksX0_added_14 0 rfl rfl)
theorem dX0_added_332 : decode cX0_added 332 = .ok (.iload 10, 2) := dk_21 10 (dk_at dksX0_added_14 1 rfl rfl)
theorem dX0_added_334 : decode cX0_added 334 = .ok (.invokevirtual 24, 3) := dk_182 0 24 (dk_at dksX0_added_14 3 rfl rfl)
theorem dX0_added_337 : decode cX0_added 337 = .ok (.aload_n 3, 1) := dk_45 (dk_at dksX0_added_14 6 rfl rfl)
theorem dX0_added_338 : decode cX0_added 338 = .ok (.iload 10, 2) := dk_21 10 (dk_at dksX0_added_14 7 rfl rfl)
theorem dX0_added_340 : decode cX0_added 340 = .ok (.invokevirtual 28, 3) := dk_182 0 28 (dk_at dksX0_added_14 9 rfl rfl)
theorem dX0_added_343 : decode cX0_added 343 = .ok (.if_icmp .eq 5, 3) := dk_159 0 5 (dk_at dksX0_added_14 12 rfl rfl)
theorem dX0_added_346 : decode cX0_added 346 = .ok (.iconst 0, 1) := dk_3 (dk_at dksX0_added_14 15 rfl rfl)
theorem dX0_added_347 : decode cX0_added 347 = .ok (.ireturn, 1) := dk_172 (dk_at dksX0_added_14 16 rfl rfl)
theorem dX0_added_348 : decode cX0_added 348 = .ok (.iinc 10 1, 3) := dk_132 10 1 (dk_at dksX0_added_14 17 rfl rfl)
theorem dX0_added_351 : decode cX0_added 351 = .ok (.goto (-28), 3) := dk_167 255 228 (dk_at dksX0_added_14 20 rfl rfl)
theorem dX0_added_354 : decode cX0_added 354 = .ok (.iload 7, 2) := dk_21 7 (dk_at dksX0_added_15 0 rfl rfl)
theorem dX0_added_356 : decode cX0_added 356 = .ok (.aload_n 3, 1) := dk_45 (dk_at dksX0_added_15 2 rfl rfl)
theorem dX0_added_357 : decode cX0_added 357 = .ok (.iload 4, 2) := dk_21 4 (dk_at dksX0_added_15 3 rfl rfl)
theorem dX0_added_359 : decode cX0_added 359 = .ok (.invokevirtual 28, 3) := dk_182 0 28 (dk_at dksX0_added_15 5 rfl rfl)
theorem dX0_added_362 : decode cX0_added 362 = .ok (.if_icmp .ne 7, 3) := dk_160 0 7 (dk_at dksX0_added_15 8 rfl rfl)
theorem dX0_added_365 : decode cX0_added 365 = .ok (.iconst 1, 1) := dk_4 (dk_at dksX0_added_15 11 rfl rfl)
theorem dX0_added_366 : decode cX0_added 366 = .ok (.goto 4, 3) := dk_167 0 4 (dk_at dksX0_added_15 12 rfl rfl)
theorem dX0_added_369 : decode cX0_added 369 = .ok (.iconst 0, 1) := dk_3 (dk_at dksX0_added_15 15 rfl rfl)
theorem dX0_added_370 : decode cX0_added 370 = .ok (.ireturn, 1) := dk_172 (dk_at dksX0_added_15 16 rfl rfl)
abbrev cX0_steps : ByteArray := method_8_code
def yX0_steps : MethodName := ⟨RX0, "steps", "([I)Z"⟩
def dkwX0_steps_19 : List UInt8 := [25, 4, 3, 21, 6, 182, 0, 24, 153, 0, 5, 3, 172, 132, 6, 1, 167, 255, 223, 4, 172]
abbrev dktX0_steps_19 : List UInt8 := dkwX0_steps_19 ++ []
def dkwX0_steps_18 : List UInt8 := [182, 0, 52, 87, 3, 54, 6, 21, 6, 27, 162, 0, 33, 25, 5, 3, 21, 6, 182, 0, 24, 154, 0, 14]
abbrev dktX0_steps_18 : List UInt8 := dkwX0_steps_18 ++ dktX0_steps_19
def dkwX0_steps_17 : List UInt8 := [25, 4, 3, 182, 0, 76, 4, 159, 0, 5, 3, 172, 42, 184, 0, 32, 58, 5, 25, 5, 3, 3, 3]
abbrev dktX0_steps_17 : List UInt8 := dkwX0_steps_17 ++ dktX0_steps_18
def dkwX0_steps_16 : List UInt8 := [162, 0, 23, 25, 4, 3, 21, 5, 182, 0, 24, 2, 159, 0, 5, 3, 172, 132, 5, 1, 167, 255, 233]
abbrev dktX0_steps_16 : List UInt8 := dkwX0_steps_16 ++ dktX0_steps_17
def dkwX0_steps_15 : List UInt8 := [27, 4, 100, 182, 0, 16, 25, 4, 3, 182, 0, 79, 2, 159, 0, 5, 3, 172, 3, 54, 5, 21, 5, 27]
abbrev dktX0_steps_15 : List UInt8 := dkwX0_steps_15 ++ dktX0_steps_16
def dkwX0_steps_14 : List UInt8 := [100, 120, 159, 0, 5, 3, 172, 132, 4, 1, 167, 254, 201, 187, 0, 7, 89, 183, 0, 9, 58, 4, 25, 4]
abbrev dktX0_steps_14 : List UInt8 := dkwX0_steps_14 ++ dktX0_steps_15
def dkwX0_steps_13 : List UInt8 := [27, 4, 100, 182, 0, 24, 16, 32, 29, 100, 124, 167, 0, 15, 25, 6, 3, 3, 182, 0, 24, 16, 32, 29]
abbrev dktX0_steps_13 : List UInt8 := dkwX0_steps_13 ++ dktX0_steps_14
def dkwX0_steps_12 : List UInt8 := [167, 0, 50, 21, 4, 4, 160, 0, 9, 21, 8, 116, 167, 0, 38, 21, 4, 5, 160, 0, 20, 25, 6, 3]
abbrev dktX0_steps_12 : List UInt8 := dkwX0_steps_12 ++ dktX0_steps_13
def dkwX0_steps_11 : List UInt8 := [21, 8, 167, 0, 4, 3, 54, 8, 132, 9, 1, 167, 255, 93, 21, 7, 21, 4, 154, 0, 8, 21, 8]
abbrev dktX0_steps_11 : List UInt8 := dkwX0_steps_11 ++ dktX0_steps_12
def dkwX0_steps_10 : List UInt8 := [172, 21, 4, 154, 0, 8, 21, 11, 153, 0, 15, 21, 4, 4, 160, 0, 14, 21, 11, 2, 160, 0, 8]
abbrev dktX0_steps_10 : List UInt8 := dkwX0_steps_10 ++ dktX0_steps_11
def dkwX0_steps_9 : List UInt8 := [29, 100, 120, 167, 0, 4, 3, 128, 54, 11, 25, 5, 3, 21, 9, 182, 0, 24, 21, 11, 159, 0, 5, 3]
abbrev dktX0_steps_9 : List UInt8 := dkwX0_steps_9 ++ dktX0_steps_10
def dkwX0_steps_8 : List UInt8 := [21, 10, 29, 124, 21, 9, 4, 96, 27, 162, 0, 21, 25, 6, 3, 21, 9, 4, 96, 182, 0, 24, 16, 32]
abbrev dktX0_steps_8 : List UInt8 := dkwX0_steps_8 ++ dktX0_steps_9
def dkwX0_steps_7 : List UInt8 := [25, 6, 3, 21, 9, 4, 100, 182, 0, 24, 16, 32, 29, 100, 124, 167, 0, 4, 3, 128, 167, 0, 35]
abbrev dktX0_steps_7 : List UInt8 := dkwX0_steps_7 ++ dktX0_steps_8
def dkwX0_steps_6 : List UInt8 := [21, 10, 21, 8, 100, 167, 0, 73, 21, 4, 5, 160, 0, 35, 21, 10, 29, 120, 21, 9, 158, 0, 21]
abbrev dktX0_steps_6 : List UInt8 := dkwX0_steps_6 ++ dktX0_steps_7
def dkwX0_steps_5 : List UInt8 := [182, 0, 24, 54, 10, 21, 4, 154, 0, 11, 21, 10, 21, 8, 96, 167, 0, 87, 21, 4, 4, 160, 0, 11]
abbrev dktX0_steps_5 : List UInt8 := dkwX0_steps_5 ++ dktX0_steps_6
def dkwX0_steps_4 : List UInt8 := [3, 28, 182, 0, 73, 54, 7, 4, 54, 8, 3, 54, 9, 21, 9, 27, 162, 0, 163, 25, 6, 3, 21, 9]
abbrev dktX0_steps_4 : List UInt8 := dkwX0_steps_4 ++ dktX0_steps_5
def dkwX0_steps_3 : List UInt8 := [182, 0, 79, 167, 0, 26, 21, 4, 5, 160, 0, 13, 25, 5, 3, 28, 182, 0, 70, 167, 0, 10, 25, 5]
abbrev dktX0_steps_3 : List UInt8 := dkwX0_steps_3 ++ dktX0_steps_4
def dkwX0_steps_2 : List UInt8 := [21, 4, 154, 0, 12, 25, 5, 3, 182, 0, 76, 167, 0, 41, 21, 4, 4, 160, 0, 12, 25, 5, 3]
abbrev dktX0_steps_2 : List UInt8 := dkwX0_steps_2 ++ dktX0_steps_3
def dkwX0_steps_1 : List UInt8 := [112, 96, 62, 3, 54, 4, 21, 4, 7, 162, 1, 55, 42, 184, 0, 32, 58, 5, 42, 184, 0, 32, 58, 6]
abbrev dktX0_steps_1 : List UInt8 := dkwX0_steps_1 ++ dktX0_steps_2
def dkwX0_steps_0 : List UInt8 := [4, 42, 3, 184, 0, 10, 16, 15, 126, 96, 60, 42, 5, 184, 0, 10, 61, 4, 28, 18, 69, 126, 16, 31]
abbrev dktX0_steps_0 : List UInt8 := dkwX0_steps_0 ++ dktX0_steps_1
theorem dksX0_steps_0 : cX0_steps.data.toList.drop 0 = dktX0_steps_0 := by decide +kernel
theorem dksX0_steps_1 : cX0_steps.data.toList.drop 24 = dktX0_steps_1 := dk_seg dksX0_steps_0 24 rfl rfl
theorem dksX0_steps_2 : cX0_steps.data.toList.drop 48 = dktX0_steps_2 := dk_seg dksX0_steps_1 24 rfl rfl
theorem dksX0_steps_3 : cX0_steps.data.toList.drop 71 = dktX0_steps_3 := dk_seg dksX0_steps_2 23 rfl rfl
theorem dksX0_steps_4 : cX0_steps.data.toList.drop 95 = dktX0_steps_4 := dk_seg dksX0_steps_3 24 rfl rfl
theorem dksX0_steps_5 : cX0_steps.data.toList.drop 119 = dktX0_steps_5 := dk_seg dksX0_steps_4 24 rfl rfl
theorem dksX0_steps_6 : cX0_steps.data.toList.drop 143 = dktX0_steps_6 := dk_seg dksX0_steps_5 24 rfl rfl
theorem dksX0_steps_7 : cX0_steps.data.toList.drop 166 = dktX0_steps_7 := dk_seg dksX0_steps_6 23 rfl rfl
theorem dksX0_steps_8 : cX0_steps.data.toList.drop 189 = dktX0_steps_8 := dk_seg dksX0_steps_7 23 rfl rfl
theorem dksX0_steps_9 : cX0_steps.data.toList.drop 213 = dktX0_steps_9 := dk_seg dksX0_steps_8 24 rfl rfl
theorem dksX0_steps_10 : cX0_steps.data.toList.drop 237 = dktX0_steps_10 := dk_seg dksX0_steps_9 24 rfl rfl
theorem dksX0_steps_11 : cX0_steps.data.toList.drop 260 = dktX0_steps_11 := dk_seg dksX0_steps_10 23 rfl rfl
theorem dksX0_steps_12 : cX0_steps.data.toList.drop 283 = dktX0_steps_12 := dk_seg dksX0_steps_11 23 rfl rfl
theorem dksX0_steps_13 : cX0_steps.data.toList.drop 307 = dktX0_steps_13 := dk_seg dksX0_steps_12 24 rfl rfl
theorem dksX0_steps_14 : cX0_steps.data.toList.drop 331 = dktX0_steps_14 := dk_seg dksX0_steps_13 24 rfl rfl
theorem dksX0_steps_15 : cX0_steps.data.toList.drop 355 = dktX0_steps_15 := dk_seg dksX0_steps_14 24 rfl rfl
theorem dksX0_steps_16 : cX0_steps.data.toList.drop 379 = dktX0_steps_16 := dk_seg dksX0_steps_15 24 rfl rfl
theorem dksX0_steps_17 : cX0_steps.data.toList.drop 402 = dktX0_steps_17 := dk_seg dksX0_steps_16 23 rfl rfl
theorem dksX0_steps_18 : cX0_steps.data.toList.drop 425 = dktX0_steps_18 := dk_seg dksX0_steps_17 23 rfl rfl
theorem dksX0_steps_19 : cX0_steps.data.toList.drop 449 = dktX0_steps_19 := dk_seg dksX0_steps_18 24 rfl rfl
theorem dX0_steps_0 : decode cX0_steps 0 = .ok (.iconst 1, 1) := dk_4 (dk_at dksX0_steps_0 0 rfl rfl)
theorem dX0_steps_1 : decode cX0_steps 1 = .ok (.aload_n 0, 1) := dk_42 (dk_at dksX0_steps_0 1 rfl rfl)
theorem dX0_steps_2 : decode cX0_steps 2 = .ok (.iconst 0, 1) := dk_3 (dk_at dksX0_steps_0 2 rfl rfl)
theorem dX0_steps_3 : decode cX0_steps 3 = .ok (.invokestatic 10, 3) := dk_184 0 10 (dk_at dksX0_steps_0 3 rfl rfl)
theorem dX0_steps_6 : decode cX0_steps 6 = .ok (.bipush 15, 2) := dk_16 15 (dk_at dksX0_steps_0 6 rfl rfl)
theorem dX0_steps_8 : decode cX0_steps 8 = .ok (.iand, 1) := dk_126 (dk_at dksX0_steps_0 8 rfl rfl)
theorem dX0_steps_9 : decode cX0_steps 9 = .ok (.iadd, 1) := dk_96 (dk_at dksX0_steps_0 9 rfl rfl)
theorem dX0_steps_10 : decode cX0_steps 10 = .ok (.istore_n 1, 1) := dk_60 (dk_at dksX0_steps_0 10 rfl rfl)
theorem dX0_steps_11 : decode cX0_steps 11 = .ok (.aload_n 0, 1) := dk_42 (dk_at dksX0_steps_0 11 rfl rfl)
theorem dX0_steps_12 : decode cX0_steps 12 = .ok (.iconst 2, 1) := dk_5 (dk_at dksX0_steps_0 12 rfl rfl)
theorem dX0_steps_13 : decode cX0_steps 13 = .ok (.invokestatic 10, 3) := dk_184 0 10 (dk_at dksX0_steps_0 13 rfl rfl)
theorem dX0_steps_16 : decode cX0_steps 16 = .ok (.istore_n 2, 1) := dk_61 (dk_at dksX0_steps_0 16 rfl rfl)
theorem dX0_steps_17 : decode cX0_steps 17 = .ok (.iconst 1, 1) := dk_4 (dk_at dksX0_steps_0 17 rfl rfl)
theorem dX0_steps_18 : decode cX0_steps 18 = .ok (.iload_n 2, 1) := dk_28 (dk_at dksX0_steps_0 18 rfl rfl)
theorem dX0_steps_19 : decode cX0_steps 19 = .ok (.ldc 69, 2) := dk_18 69 (dk_at dksX0_steps_0 19 rfl rfl)
theorem dX0_steps_21 : decode cX0_steps 21 = .ok (.iand, 1) := dk_126 (dk_at dksX0_steps_0 21 rfl rfl)
theorem dX0_steps_22 : decode cX0_steps 22 = .ok (.bipush 31, 2) := dk_16 31 (dk_at dksX0_steps_0 22 rfl rfl)
theorem dX0_steps_24 : decode cX0_steps 24 = .ok (.irem, 1) := dk_112 (dk_at dksX0_steps_1 0 rfl rfl)
theorem dX0_steps_25 : decode cX0_steps 25 = .ok (.iadd, 1) := dk_96 (dk_at dksX0_steps_1 1 rfl rfl)
theorem dX0_steps_26 : decode cX0_steps 26 = .ok (.istore_n 3, 1) := dk_62 (dk_at dksX0_steps_1 2 rfl rfl)
theorem dX0_steps_27 : decode cX0_steps 27 = .ok (.iconst 0, 1) := dk_3 (dk_at dksX0_steps_1 3 rfl rfl)
theorem dX0_steps_28 : decode cX0_steps 28 = .ok (.istore 4, 2) := dk_54 4 (dk_at dksX0_steps_1 4 rfl rfl)
theorem dX0_steps_30 : decode cX0_steps 30 = .ok (.iload 4, 2) := dk_21 4 (dk_at dksX0_steps_1 6 rfl rfl)
theorem dX0_steps_32 : decode cX0_steps 32 = .ok (.iconst 4, 1) := dk_7 (dk_at dksX0_steps_1 8 rfl rfl)
theorem dX0_steps_33 : decode cX0_steps 33 = .ok (.if_icmp .ge 311, 3) := dk_162 1 55 (dk_at dksX0_steps_1 9 rfl rfl)
theorem dX0_steps_36 : decode cX0_steps 36 = .ok (.aload_n 0, 1) := dk_42 (dk_at dksX0_steps_1 12 rfl rfl)
theorem dX0_steps_37 : decode cX0_steps 37 = .ok (.invokestatic 32, 3) := dk_184 0 32 (dk_at dksX0_steps_1 13 rfl rfl)
theorem dX0_steps_40 : decode cX0_steps 40 = .ok (.astore 5, 2) := dk_58 5 (dk_at dksX0_steps_1 16 rfl rfl)
theorem dX0_steps_42 : decode cX0_steps 42 = .ok (.aload_n 0, 1) := dk_42 (dk_at dksX0_steps_1 18 rfl rfl)
theorem dX0_steps_43 : decode cX0_steps 43 = .ok (.invokestatic 32, 3) := dk_184 0 32 (dk_at dksX0_steps_1 19 rfl rfl)
theorem dX0_steps_46 : decode cX0_steps 46 = .ok (.astore 6, 2) := dk_58 6 (dk_at dksX0_steps_1 22 rfl rfl)
theorem dX0_steps_48 : decode cX0_steps 48 = .ok (.iload 4, 2) := dk_21 4 (dk_at dksX0_steps_2 0 rfl rfl)
theorem dX0_steps_50 : decode cX0_steps 50 = .ok (.ifCond .ne 12, 3) := dk_154 0 12 (dk_at dksX0_steps_2 2 rfl rfl)
theorem dX0_steps_53 : decode cX0_steps 53 = .ok (.aload 5, 2) := dk_25 5 (dk_at dksX0_steps_2 5 rfl rfl)
theorem dX0_steps_55 : decode cX0_steps 55 = .ok (.iconst 0, 1) := dk_3 (dk_at dksX0_steps_2 7 rfl rfl)
theorem dX0_steps_56 : decode cX0_steps 56 = .ok (.invokevirtual 76, 3) := dk_182 0 76 (dk_at dksX0_steps_2 8 rfl rfl)
theorem dX0_steps_59 : decode cX0_steps 59 = .ok (.goto 41, 3) := dk_167 0 41 (dk_at dksX0_steps_2 11 rfl rfl)
theorem dX0_steps_62 : decode cX0_steps 62 = .ok (.iload 4, 2) := dk_21 4 (dk_at dksX0_steps_2 14 rfl rfl)
theorem dX0_steps_64 : decode cX0_steps 64 = .ok (.iconst 1, 1) := dk_4 (dk_at dksX0_steps_2 16 rfl rfl)
theorem dX0_steps_65 : decode cX0_steps 65 = .ok (.if_icmp .ne 12, 3) := dk_160 0 12 (dk_at dksX0_steps_2 17 rfl rfl)
theorem dX0_steps_68 : decode cX0_steps 68 = .ok (.aload 5, 2) := dk_25 5 (dk_at dksX0_steps_2 20 rfl rfl)
theorem dX0_steps_70 : decode cX0_steps 70 = .ok (.iconst 0, 1) := dk_3 (dk_at dksX0_steps_2 22 rfl rfl)
theorem dX0_steps_71 : decode cX0_steps 71 = .ok (.invokevirtual 79, 3) := dk_182 0 79 (dk_at dksX0_steps_3 0 rfl rfl)
theorem dX0_steps_74 : decode cX0_steps 74 = .ok (.goto 26, 3) := dk_167 0 26 (dk_at dksX0_steps_3 3 rfl rfl)
theorem dX0_steps_77 : decode cX0_steps 77 = .ok (.iload 4, 2) := dk_21 4 (dk_at dksX0_steps_3 6 rfl rfl)
theorem dX0_steps_79 : decode cX0_steps 79 = .ok (.iconst 2, 1) := dk_5 (dk_at dksX0_steps_3 8 rfl rfl)
theorem dX0_steps_80 : decode cX0_steps 80 = .ok (.if_icmp .ne 13, 3) := dk_160 0 13 (dk_at dksX0_steps_3 9 rfl rfl)
theorem dX0_steps_83 : decode cX0_steps 83 = .ok (.aload 5, 2) := dk_25 5 (dk_at dksX0_steps_3 12 rfl rfl)
theorem dX0_steps_85 : decode cX0_steps 85 = .ok (.iconst 0, 1) := dk_3 (dk_at dksX0_steps_3 14 rfl rfl)
theorem dX0_steps_86 : decode cX0_steps 86 = .ok (.iload_n 2, 1) := dk_28 (dk_at dksX0_steps_3 15 rfl rfl)
theorem dX0_steps_87 : decode cX0_steps 87 = .ok (.invokevirtual 70, 3) := dk_182 0 70 (dk_at dksX0_steps_3 16 rfl rfl)
theorem dX0_steps_90 : decode cX0_steps 90 = .ok (.goto 10, 3) := dk_167 0 10 (dk_at dksX0_steps_3 19 rfl rfl)
theorem dX0_steps_93 : decode cX0_steps 93 = .ok (.aload 5, 2) := dk_25 5 (dk_at dksX0_steps_3 22 rfl rfl)
theorem dX0_steps_95 : decode cX0_steps 95 = .ok (.iconst 0, 1) := dk_3 (dk_at dksX0_steps_4 0 rfl rfl)
theorem dX0_steps_96 : decode cX0_steps 96 = .ok (.iload_n 2, 1) := dk_28 (dk_at dksX0_steps_4 1 rfl rfl)
theorem dX0_steps_97 : decode cX0_steps 97 = .ok (.invokevirtual 73, 3) := dk_182 0 73 (dk_at dksX0_steps_4 2 rfl rfl)
theorem dX0_steps_100 : decode cX0_steps 100 = .ok (.istore 7, 2) := dk_54 7 (dk_at dksX0_steps_4 5 rfl rfl)
theorem dX0_steps_102 : decode cX0_steps 102 = .ok (.iconst 1, 1) := dk_4 (dk_at dksX0_steps_4 7 rfl rfl)
theorem dX0_steps_103 : decode cX0_steps 103 = .ok (.istore 8, 2) := dk_54 8 (dk_at dksX0_steps_4 8 rfl rfl)
theorem dX0_steps_105 : decode cX0_steps 105 = .ok (.iconst 0, 1) := dk_3 (dk_at dksX0_steps_4 10 rfl rfl)
theorem dX0_steps_106 : decode cX0_steps 106 = .ok (.istore 9, 2) := dk_54 9 (dk_at dksX0_steps_4 11 rfl rfl)
theorem dX0_steps_108 : decode cX0_steps 108 = .ok (.iload 9, 2) := dk_21 9 (dk_at dksX0_steps_4 13 rfl rfl)
theorem dX0_steps_110 : decode cX0_steps 110 = .ok (.iload_n 1, 1) := dk_27 (dk_at dksX0_steps_4 15 rfl rfl)
theorem dX0_steps_111 : decode cX0_steps 111 = .ok (.if_icmp .ge 163, 3) := dk_162 0 163 (dk_at dksX0_steps_4 16 rfl rfl)
theorem dX0_steps_114 : decode cX0_steps 114 = .ok (.aload 6, 2) := dk_25 6 (dk_at dksX0_steps_4 19 rfl rfl)
theorem dX0_steps_116 : decode cX0_steps 116 = .ok (.iconst 0, 1) := dk_3 (dk_at dksX0_steps_4 21 rfl rfl)
theorem dX0_steps_117 : decode cX0_steps 117 = .ok (.iload 9, 2) := dk_21 9 (dk_at dksX0_steps_4 22 rfl rfl)
theorem dX0_steps_119 : decode cX0_steps 119 = .ok (.invokevirtual 24, 3) := dk_182 0 24 (dk_at dksX0_steps_5 0 rfl rfl)
theorem dX0_steps_122 : decode cX0_steps 122 = .ok (.istore 10, 2) := dk_54 10 (dk_at dksX0_steps_5 3 rfl rfl)
theorem dX0_steps_124 : decode cX0_steps 124 = .ok (.iload 4, 2) := dk_21 4 (dk_at dksX0_steps_5 5 rfl rfl)
theorem dX0_steps_126 : decode cX0_steps 126 = .ok (.ifCond .ne 11, 3) := dk_154 0 11 (dk_at dksX0_steps_5 7 rfl rfl)
theorem dX0_steps_129 : decode cX0_steps 129 = .ok (.iload 10, 2) := dk_21 10 (dk_at dksX0_steps_5 10 rfl rfl)
theorem dX0_steps_131 : decode cX0_steps 131 = .ok (.iload 8, 2) := dk_21 8 (dk_at dksX0_steps_5 12 rfl rfl)
theorem dX0_steps_133 : decode cX0_steps 133 = .ok (.iadd, 1) := dk_96 (dk_at dksX0_steps_5 14 rfl rfl)
theorem dX0_steps_134 : decode cX0_steps 134 = .ok (.goto 87, 3) := dk_167 0 87 (dk_at dksX0_steps_5 15 rfl rfl)
theorem dX0_steps_137 : decode cX0_steps 137 = .ok (.iload 4, 2) := dk_21 4 (dk_at dksX0_steps_5 18 rfl rfl)
theorem dX0_steps_139 : decode cX0_steps 139 = .ok (.iconst 1, 1) := dk_4 (dk_at dksX0_steps_5 20 rfl rfl)
theorem dX0_steps_140 : decode cX0_steps 140 = .ok (.if_icmp .ne 11, 3) := dk_160 0 11 (dk_at dksX0_steps_5 21 rfl rfl)
theorem dX0_steps_143 : decode cX0_steps 143 = .ok (.iload 10, 2) := dk_21 10 (dk_at dksX0_steps_6 0 rfl rfl)
theorem dX0_steps_145 : decode cX0_steps 145 = .ok (.iload 8, 2) := dk_21 8 (dk_at dksX0_steps_6 2 rfl rfl)
theorem dX0_steps_147 : decode cX0_steps 147 = .ok (.isub, 1) := dk_100 (dk_at dksX0_steps_6 4 rfl rfl)
theorem dX0_steps_148 : decode cX0_steps 148 = .ok (.goto 73, 3) := dk_167 0 73 (dk_at dksX0_steps_6 5 rfl rfl)
theorem dX0_steps_151 : decode cX0_steps 151 = .ok (.iload 4, 2) := dk_21 4 (dk_at dksX0_steps_6 8 rfl rfl)
theorem dX0_steps_153 : decode cX0_steps 153 = .ok (.iconst 2, 1) := dk_5 (dk_at dksX0_steps_6 10 rfl rfl)
theorem dX0_steps_154 : decode cX0_steps 154 = .ok (.if_icmp .ne 35, 3) := dk_160 0 35 (dk_at dksX0_steps_6 11 rfl rfl)
theorem dX0_steps_157 : decode cX0_steps 157 = .ok (.iload 10, 2) := dk_21 10 (dk_at dksX0_steps_6 14 rfl rfl)
theorem dX0_steps_159 : decode cX0_steps 159 = .ok (.iload_n 3, 1) := dk_29 (dk_at dksX0_steps_6 16 rfl rfl)
theorem dX0_steps_160 : decode cX0_steps 160 = .ok (.ishl, 1) := dk_120 (dk_at dksX0_steps_6 17 rfl rfl)
theorem dX0_steps_161 : decode cX0_steps 161 = .ok (.iload 9, 2) := dk_21 9 (dk_at dksX0_steps_6 18 rfl rfl)
theorem dX0_steps_163 : decode cX0_steps 163 = .ok (.ifCond .le 21, 3) := dk_158 0 21 (dk_at dksX0_steps_6 20 rfl rfl)
theorem dX0_steps_166 : decode cX0_steps 166 = .ok (.aload 6, 2) := dk_25 6 (dk_at dksX0_steps_7 0 rfl rfl)
theorem dX0_steps_168 : decode cX0_steps 168 = .ok (.iconst 0, 1) := dk_3 (dk_at dksX0_steps_7 2 rfl rfl)
theorem dX0_steps_169 : decode cX0_steps 169 = .ok (.iload 9, 2) := dk_21 9 (dk_at dksX0_steps_7 3 rfl rfl)
theorem dX0_steps_171 : decode cX0_steps 171 = .ok (.iconst 1, 1) := dk_4 (dk_at dksX0_steps_7 5 rfl rfl)
theorem dX0_steps_172 : decode cX0_steps 172 = .ok (.isub, 1) := dk_100 (dk_at dksX0_steps_7 6 rfl rfl)
theorem dX0_steps_173 : decode cX0_steps 173 = .ok (.invokevirtual 24, 3) := dk_182 0 24 (dk_at dksX0_steps_7 7 rfl rfl)
theorem dX0_steps_176 : decode cX0_steps 176 = .ok (.bipush 32, 2) := dk_16 32 (dk_at dksX0_steps_7 10 rfl rfl)
theorem dX0_steps_178 : decode cX0_steps 178 = .ok (.iload_n 3, 1) := dk_29 (dk_at dksX0_steps_7 12 rfl rfl)
theorem dX0_steps_179 : decode cX0_steps 179 = .ok (.isub, 1) := dk_100 (dk_at dksX0_steps_7 13 rfl rfl)
theorem dX0_steps_180 : decode cX0_steps 180 = .ok (.iushr, 1) := dk_124 (dk_at dksX0_steps_7 14 rfl rfl)
theorem dX0_steps_181 : decode cX0_steps 181 = .ok (.goto 4, 3) := dk_167 0 4 (dk_at dksX0_steps_7 15 rfl rfl)
theorem dX0_steps_184 : decode cX0_steps 184 = .ok (.iconst 0, 1) := dk_3 (dk_at dksX0_steps_7 18 rfl rfl)
theorem dX0_steps_185 : decode cX0_steps 185 = .ok (.ior, 1) := dk_128 (dk_at dksX0_steps_7 19 rfl rfl)
theorem dX0_steps_186 : decode cX0_steps 186 = .ok (.goto 35, 3) := dk_167 0 35 (dk_at dksX0_steps_7 20 rfl rfl)
theorem dX0_steps_189 : decode cX0_steps 189 = .ok (.iload 10, 2) := dk_21 10 (dk_at dksX0_steps_8 0 rfl rfl)
theorem dX0_steps_191 : decode cX0_steps 191 = .ok (.iload_n 3, 1) := dk_29 (dk_at dksX0_steps_8 2 rfl rfl)
theorem dX0_steps_192 : decode cX0_steps 192 = .ok (.iushr, 1) := dk_124 (dk_at dksX0_steps_8 3 rfl rfl)
theorem dX0_steps_193 : decode cX0_steps 193 = .ok (.iload 9, 2) := dk_21 9 (dk_at dksX0_steps_8 4 rfl rfl)
theorem dX0_steps_195 : decode cX0_steps 195 = .ok (.iconst 1, 1) := dk_4 (dk_at dksX0_steps_8 6 rfl rfl)
theorem dX0_steps_196 : decode cX0_steps 196 = .ok (.iadd, 1) := dk_96 (dk_at dksX0_steps_8 7 rfl rfl)
theorem dX0_steps_197 : decode cX0_steps 197 = .ok (.iload_n 1, 1) := dk_27 (dk_at dksX0_steps_8 8 rfl rfl)
theorem dX0_steps_198 : decode cX0_steps 198 = .ok (.if_icmp .ge 21, 3) := dk_162 0 21 (dk_at dksX0_steps_8 9 rfl rfl)
theorem dX0_steps_201 : decode cX0_steps 201 = .ok (.aload 6, 2) := dk_25 6 (dk_at dksX0_steps_8 12 rfl rfl)
theorem dX0_steps_203 : decode cX0_steps 203 = .ok (.iconst 0, 1) := dk_3 (dk_at dksX0_steps_8 14 rfl rfl)
theorem dX0_steps_204 : decode cX0_steps 204 = .ok (.iload 9, 2) := dk_21 9 (dk_at dksX0_steps_8 15 rfl rfl)
theorem dX0_steps_206 : decode cX0_steps 206 = .ok (.iconst 1, 1) := dk_4 (dk_at dksX0_steps_8 17 rfl rfl)
theorem dX0_steps_207 : decode cX0_steps 207 = .ok (.iadd, 1) := dk_96 (dk_at dksX0_steps_8 18 rfl rfl)
theorem dX0_steps_208 : decode cX0_steps 208 = .ok (.invokevirtual 24, 3) := dk_182 0 24 (dk_at dksX0_steps_8 19 rfl rfl)
theorem dX0_steps_211 : decode cX0_steps 211 = .ok (.bipush 32, 2) := dk_16 32 (dk_at dksX0_steps_8 22 rfl rfl)
theorem dX0_steps_213 : decode cX0_steps 213 = .ok (.iload_n 3, 1) := dk_29 (dk_at dksX0_steps_9 0 rfl rfl)
theorem dX0_steps_214 : decode cX0_steps 214 = .ok (.isub, 1) := dk_100 (dk_at dksX0_steps_9 1 rfl rfl)
theorem dX0_steps_215 : decode cX0_steps 215 = .ok (.ishl, 1) := dk_120 (dk_at dksX0_steps_9 2 rfl rfl)
theorem dX0_steps_216 : decode cX0_steps 216 = .ok (.goto 4, 3) := dk_167 0 4 (dk_at dksX0_steps_9 3 rfl rfl)
theorem dX0_steps_219 : decode cX0_steps 219 = .ok (.iconst 0, 1) := dk_3 (dk_at dksX0_steps_9 6 rfl rfl)
theorem dX0_steps_220 : decode cX0_steps 220 = .ok (.ior, 1) := dk_128 (dk_at dksX0_steps_9 7 rfl rfl)
theorem dX0_steps_221 : decode cX0_steps 221 = .ok (.istore 11, 2) := dk_54 11 (dk_at dksX0_steps_9 8 rfl rfl)
theorem dX0_steps_223 : decode cX0_steps 223 = .ok (.aload 5, 2) := dk_25 5 (dk_at dksX0_steps_9 10 rfl rfl)
theorem dX0_steps_225 : decode cX0_steps 225 = .ok (.iconst 0, 1) := dk_3 (dk_at dksX0_steps_9 12 rfl rfl)
theorem dX0_steps_226 : decode cX0_steps 226 = .ok (.iload 9, 2) := dk_21 9 (dk_at dksX0_steps_9 13 rfl rfl)
theorem dX0_steps_228 : decode cX0_steps 228 = .ok (.invokevirtual 24, 3) := dk_182 0 24 (dk_at dksX0_steps_9 15 rfl rfl)
theorem dX0_steps_231 : decode cX0_steps 231 = .ok (.iload 11, 2) := dk_21 11 (dk_at dksX0_steps_9 18 rfl rfl)
theorem dX0_steps_233 : decode cX0_steps 233 = .ok (.if_icmp .eq 5, 3) := dk_159 0 5 (dk_at dksX0_steps_9 20 rfl rfl)
theorem dX0_steps_236 : decode cX0_steps 236 = .ok (.iconst 0, 1) := dk_3 (dk_at dksX0_steps_9 23 rfl rfl)
theorem dX0_steps_237 : decode cX0_steps 237 = .ok (.ireturn, 1) := dk_172 (dk_at dksX0_steps_10 0 rfl rfl)
theorem dX0_steps_238 : decode cX0_steps 238 = .ok (.iload 4, 2) := dk_21 4 (dk_at dksX0_steps_10 1 rfl rfl)
theorem dX0_steps_240 : decode cX0_steps 240 = .ok (.ifCond .ne 8, 3) := dk_154 0 8 (dk_at dksX0_steps_10 3 rfl rfl)
theorem dX0_steps_243 : decode cX0_steps 243 = .ok (.iload 11, 2) := dk_21 11 (dk_at dksX0_steps_10 6 rfl rfl)
theorem dX0_steps_245 : decode cX0_steps 245 = .ok (.ifCond .eq 15, 3) := dk_153 0 15 (dk_at dksX0_steps_10 8 rfl rfl)
theorem dX0_steps_248 : decode cX0_steps 248 = .ok (.iload 4, 2) := dk_21 4 (dk_at dksX0_steps_10 11 rfl rfl)
theorem dX0_steps_250 : decode cX0_steps 250 = .ok (.iconst 1, 1) := dk_4 (dk_at dksX0_steps_10 13 rfl rfl)
theorem dX0_steps_251 : decode cX0_steps 251 = .ok (.if_icmp .ne 14, 3) := dk_160 0 14 (dk_at dksX0_steps_10 14 rfl rfl)
theorem dX0_steps_254 : decode cX0_steps 254 = .ok (.iload 11, 2) := dk_21 11 (dk_at dksX0_steps_10 17 rfl rfl)
theorem dX0_steps_256 : decode cX0_steps 256 = .ok (.iconst (-1), 1) := dk_2 (dk_at dksX0_steps_10 19 rfl rfl)
theorem dX0_steps_257 : decode cX0_steps 257 = .ok (.if_icmp .ne 8, 3) := dk_160 0 8 (dk_at dksX0_steps_10 20 rfl rfl)
theorem dX0_steps_260 : decode cX0_steps 260 = .ok (.iload 8, 2) := dk_21 8 (dk_at dksX0_steps_11 0 rfl rfl)
theorem dX0_steps_262 : decode cX0_steps 262 = .ok (.goto 4, 3) := dk_167 0 4 (dk_at dksX0_steps_11 2 rfl rfl)
theorem dX0_steps_265 : decode cX0_steps 265 = .ok (.iconst 0, 1) := dk_3 (dk_at dksX0_steps_11 5 rfl rfl)
theorem dX0_steps_266 : decode cX0_steps 266 = .ok (.istore 8, 2) := dk_54 8 (dk_at dksX0_steps_11 6 rfl rfl)
theorem dX0_steps_268 : decode cX0_steps 268 = .ok (.iinc 9 1, 3) := dk_132 9 1 (dk_at dksX0_steps_11 8 rfl rfl)
theorem dX0_steps_271 : decode cX0_steps 271 = .ok (.goto (-163), 3) := dk_167 255 93 (dk_at dksX0_steps_11 11 rfl rfl)
theorem dX0_steps_274 : decode cX0_steps 274 = .ok (.iload 7, 2) := dk_21 7 (dk_at dksX0_steps_11 14 rfl rfl)
theorem dX0_steps_276 : decode cX0_steps 276 = .ok (.iload 4, 2) := dk_21 4 (dk_at dksX0_steps_11 16 rfl rfl)
theorem dX0_steps_278 : decode cX0_steps 278 = .ok (.ifCond .ne 8, 3) := dk_154 0 8 (dk_at dksX0_steps_11 18 rfl rfl)
theorem dX0_steps_281 : decode cX0_steps 281 = .ok (.iload 8, 2) := dk_21 8 (dk_at dksX0_steps_11 21 rfl rfl)
theorem dX0_steps_283 : decode cX0_steps 283 = .ok (.goto 50, 3) := dk_167 0 50 (dk_at dksX0_steps_12 0 rfl rfl)
theorem dX0_steps_286 : decode cX0_steps 286 = .ok (.iload 4, 2) := dk_21 4 (dk_at dksX0_steps_12 3 rfl rfl)
theorem dX0_steps_288 : decode cX0_steps 288 = .ok (.iconst 1, 1) := dk_4 (dk_at dksX0_steps_12 5 rfl rfl)
theorem dX0_steps_289 : decode cX0_steps 289 = .ok (.if_icmp .ne 9, 3) := dk_160 0 9 (dk_at dksX0_steps_12 6 rfl rfl)
theorem dX0_steps_292 : decode cX0_steps 292 = .ok (.iload 8, 2) := dk_21 8 (dk_at dksX0_steps_12 9 rfl rfl)
theorem dX0_steps_294 : decode cX0_steps 294 = .ok (.ineg, 1) := dk_116 (dk_at dksX0_steps_12 11 rfl rfl)
theorem dX0_steps_295 : decode cX0_steps 295 = .ok (.goto 38, 3) := dk_167 0 38 (dk_at dksX0_steps_12 12 rfl rfl)
theorem dX0_steps_298 : decode cX0_steps 298 = .ok (.iload 4, 2) := dk_21 4 (dk_at dksX0_steps_12 15 rfl rfl)
theorem dX0_steps_300 : decode cX0_steps 300 = .ok (.iconst 2, 1) := dk_5 (dk_at dksX0_steps_12 17 rfl rfl)
theorem dX0_steps_301 : decode cX0_steps 301 = .ok (.if_icmp .ne 20, 3) := dk_160 0 20 (dk_at dksX0_steps_12 18 rfl rfl)
theorem dX0_steps_304 : decode cX0_steps 304 = .ok (.aload 6, 2) := dk_25 6 (dk_at dksX0_steps_12 21 rfl rfl)
theorem dX0_steps_306 : decode cX0_steps 306 = .ok (.iconst 0, 1) := dk_3 (dk_at dksX0_steps_12 23 rfl rfl)
theorem dX0_steps_307 : decode cX0_steps 307 = .ok (.iload_n 1, 1) := dk_27 (dk_at dksX0_steps_13 0 rfl rfl)
theorem dX0_steps_308 : decode cX0_steps 308 = .ok (.iconst 1, 1) := dk_4 (dk_at dksX0_steps_13 1 rfl rfl)
theorem dX0_steps_309 : decode cX0_steps 309 = .ok (.isub, 1) := dk_100 (dk_at dksX0_steps_13 2 rfl rfl)
theorem dX0_steps_310 : decode cX0_steps 310 = .ok (.invokevirtual 24, 3) := dk_182 0 24 (dk_at dksX0_steps_13 3 rfl rfl)
theorem dX0_steps_313 : decode cX0_steps 313 = .ok (.bipush 32, 2) := dk_16 32 (dk_at dksX0_steps_13 6 rfl rfl)
theorem dX0_steps_315 : decode cX0_steps 315 = .ok (.iload_n 3, 1) := dk_29 (dk_at dksX0_steps_13 8 rfl rfl)
theorem dX0_steps_316 : decode cX0_steps 316 = .ok (.isub, 1) := dk_100 (dk_at dksX0_steps_13 9 rfl rfl)
theorem dX0_steps_317 : decode cX0_steps 317 = .ok (.iushr, 1) := dk_124 (dk_at dksX0_steps_13 10 rfl rfl)
theorem dX0_steps_318 : decode cX0_steps 318 = .ok (.goto 15, 3) := dk_167 0 15 (dk_at dksX0_steps_13 11 rfl rfl)
theorem dX0_steps_321 : decode cX0_steps 321 = .ok (.aload 6, 2) := dk_25 6 (dk_at dksX0_steps_13 14 rfl rfl)
theorem dX0_steps_323 : decode cX0_steps 323 = .ok (.iconst 0, 1) := dk_3 (dk_at dksX0_steps_13 16 rfl rfl)
theorem dX0_steps_324 : decode cX0_steps 324 = .ok (.iconst 0, 1) := dk_3 (dk_at dksX0_steps_13 17 rfl rfl)
theorem dX0_steps_325 : decode cX0_steps 325 = .ok (.invokevirtual 24, 3) := dk_182 0 24 (dk_at dksX0_steps_13 18 rfl rfl)
theorem dX0_steps_328 : decode cX0_steps 328 = .ok (.bipush 32, 2) := dk_16 32 (dk_at dksX0_steps_13 21 rfl rfl)
theorem dX0_steps_330 : decode cX0_steps 330 = .ok (.iload_n 3, 1) := dk_29 (dk_at dksX0_steps_13 23 rfl rfl)
theorem dX0_steps_331 : decode cX0_steps 331 = .ok (.isub, 1) := dk_100 (dk_at dksX0_steps_14 0 rfl rfl)
theorem dX0_steps_332 : decode cX0_steps 332 = .ok (.ishl, 1) := dk_120 (dk_at dksX0_steps_14 1 rfl rfl)
theorem dX0_steps_333 : decode cX0_steps 333 = .ok (.if_icmp .eq 5, 3) := dk_159 0 5 (dk_at dksX0_steps_14 2 rfl rfl)
theorem dX0_steps_336 : decode cX0_steps 336 = .ok (.iconst 0, 1) := dk_3 (dk_at dksX0_steps_14 5 rfl rfl)
theorem dX0_steps_337 : decode cX0_steps 337 = .ok (.ireturn, 1) := dk_172 (dk_at dksX0_steps_14 6 rfl rfl)
theorem dX0_steps_338 : decode cX0_steps 338 = .ok (.iinc 4 1, 3) := dk_132 4 1 (dk_at dksX0_steps_14 7 rfl rfl)
theorem dX0_steps_341 : decode cX0_steps 341 = .ok (.goto (-311), 3) := dk_167 254 201 (dk_at dksX0_steps_14 10 rfl rfl)
theorem dX0_steps_344 : decode cX0_steps 344 = .ok (.new 7, 3) := dk_187 0 7 (dk_at dksX0_steps_14 13 rfl rfl)
theorem dX0_steps_347 : decode cX0_steps 347 = .ok (.dup, 1) := dk_89 (dk_at dksX0_steps_14 16 rfl rfl)
theorem dX0_steps_348 : decode cX0_steps 348 = .ok (.invokespecial 9, 3) := dk_183 0 9 (dk_at dksX0_steps_14 17 rfl rfl)
theorem dX0_steps_351 : decode cX0_steps 351 = .ok (.astore 4, 2) := dk_58 4 (dk_at dksX0_steps_14 20 rfl rfl)
theorem dX0_steps_353 : decode cX0_steps 353 = .ok (.aload 4, 2) := dk_25 4 (dk_at dksX0_steps_14 22 rfl rfl)
theorem dX0_steps_355 : decode cX0_steps 355 = .ok (.iload_n 1, 1) := dk_27 (dk_at dksX0_steps_15 0 rfl rfl)
theorem dX0_steps_356 : decode cX0_steps 356 = .ok (.iconst 1, 1) := dk_4 (dk_at dksX0_steps_15 1 rfl rfl)
theorem dX0_steps_357 : decode cX0_steps 357 = .ok (.isub, 1) := dk_100 (dk_at dksX0_steps_15 2 rfl rfl)
theorem dX0_steps_358 : decode cX0_steps 358 = .ok (.invokevirtual 16, 3) := dk_182 0 16 (dk_at dksX0_steps_15 3 rfl rfl)
theorem dX0_steps_361 : decode cX0_steps 361 = .ok (.aload 4, 2) := dk_25 4 (dk_at dksX0_steps_15 6 rfl rfl)
theorem dX0_steps_363 : decode cX0_steps 363 = .ok (.iconst 0, 1) := dk_3 (dk_at dksX0_steps_15 8 rfl rfl)
theorem dX0_steps_364 : decode cX0_steps 364 = .ok (.invokevirtual 79, 3) := dk_182 0 79 (dk_at dksX0_steps_15 9 rfl rfl)
theorem dX0_steps_367 : decode cX0_steps 367 = .ok (.iconst (-1), 1) := dk_2 (dk_at dksX0_steps_15 12 rfl rfl)
theorem dX0_steps_368 : decode cX0_steps 368 = .ok (.if_icmp .eq 5, 3) := dk_159 0 5 (dk_at dksX0_steps_15 13 rfl rfl)
theorem dX0_steps_371 : decode cX0_steps 371 = .ok (.iconst 0, 1) := dk_3 (dk_at dksX0_steps_15 16 rfl rfl)
theorem dX0_steps_372 : decode cX0_steps 372 = .ok (.ireturn, 1) := dk_172 (dk_at dksX0_steps_15 17 rfl rfl)
theorem dX0_steps_373 : decode cX0_steps 373 = .ok (.iconst 0, 1) := dk_3 (dk_at dksX0_steps_15 18 rfl rfl)
theorem dX0_steps_374 : decode cX0_steps 374 = .ok (.istore 5, 2) := dk_54 5 (dk_at dksX0_steps_15 19 rfl rfl)
theorem dX0_steps_376 : decode cX0_steps 376 = .ok (.iload 5, 2) := dk_21 5 (dk_at dksX0_steps_15 21 rfl rfl)
theorem dX0_steps_378 : decode cX0_steps 378 = .ok (.iload_n 1, 1) := dk_27 (dk_at dksX0_steps_15 23 rfl rfl)
theorem dX0_steps_379 : decode cX0_steps 379 = .ok (.if_icmp .ge 23, 3) := dk_162 0 23 (dk_at dksX0_steps_16 0 rfl rfl)
theorem dX0_steps_382 : decode cX0_steps 382 = .ok (.aload 4, 2) := dk_25 4 (dk_at dksX0_steps_16 3 rfl rfl)
theorem dX0_steps_384 : decode cX0_steps 384 = .ok (.iconst 0, 1) := dk_3 (dk_at dksX0_steps_16 5 rfl rfl)
theorem dX0_steps_385 : decode cX0_steps 385 = .ok (.iload 5, 2) := dk_21 5 (dk_at dksX0_steps_16 6 rfl rfl)
theorem dX0_steps_387 : decode cX0_steps 387 = .ok (.invokevirtual 24, 3) := dk_182 0 24 (dk_at dksX0_steps_16 8 rfl rfl)
theorem dX0_steps_390 : decode cX0_steps 390 = .ok (.iconst (-1), 1) := dk_2 (dk_at dksX0_steps_16 11 rfl rfl)
theorem dX0_steps_391 : decode cX0_steps 391 = .ok (.if_icmp .eq 5, 3) := dk_159 0 5 (dk_at dksX0_steps_16 12 rfl rfl)
theorem dX0_steps_394 : decode cX0_steps 394 = .ok (.iconst 0, 1) := dk_3 (dk_at dksX0_steps_16 15 rfl rfl)
theorem dX0_steps_395 : decode cX0_steps 395 = .ok (.ireturn, 1) := dk_172 (dk_at dksX0_steps_16 16 rfl rfl)
theorem dX0_steps_396 : decode cX0_steps 396 = .ok (.iinc 5 1, 3) := dk_132 5 1 (dk_at dksX0_steps_16 17 rfl rfl)
theorem dX0_steps_399 : decode cX0_steps 399 = .ok (.goto (-23), 3) := dk_167 255 233 (dk_at dksX0_steps_16 20 rfl rfl)
theorem dX0_steps_402 : decode cX0_steps 402 = .ok (.aload 4, 2) := dk_25 4 (dk_at dksX0_steps_17 0 rfl rfl)
theorem dX0_steps_404 : decode cX0_steps 404 = .ok (.iconst 0, 1) := dk_3 (dk_at dksX0_steps_17 2 rfl rfl)
theorem dX0_steps_405 : decode cX0_steps 405 = .ok (.invokevirtual 76, 3) := dk_182 0 76 (dk_at dksX0_steps_17 3 rfl rfl)
theorem dX0_steps_408 : decode cX0_steps 408 = .ok (.iconst 1, 1) := dk_4 (dk_at dksX0_steps_17 6 rfl rfl)
theorem dX0_steps_409 : decode cX0_steps 409 = .ok (.if_icmp .eq 5, 3) := dk_159 0 5 (dk_at dksX0_steps_17 7 rfl rfl)
theorem dX0_steps_412 : decode cX0_steps 412 = .ok (.iconst 0, 1) := dk_3 (dk_at dksX0_steps_17 10 rfl rfl)
theorem dX0_steps_413 : decode cX0_steps 413 = .ok (.ireturn, 1) := dk_172 (dk_at dksX0_steps_17 11 rfl rfl)
theorem dX0_steps_414 : decode cX0_steps 414 = .ok (.aload_n 0, 1) := dk_42 (dk_at dksX0_steps_17 12 rfl rfl)
theorem dX0_steps_415 : decode cX0_steps 415 = .ok (.invokestatic 32, 3) := dk_184 0 32 (dk_at dksX0_steps_17 13 rfl rfl)
theorem dX0_steps_418 : decode cX0_steps 418 = .ok (.astore 5, 2) := dk_58 5 (dk_at dksX0_steps_17 16 rfl rfl)
theorem dX0_steps_420 : decode cX0_steps 420 = .ok (.aload 5, 2) := dk_25 5 (dk_at dksX0_steps_17 18 rfl rfl)
theorem dX0_steps_422 : decode cX0_steps 422 = .ok (.iconst 0, 1) := dk_3 (dk_at dksX0_steps_17 20 rfl rfl)
theorem dX0_steps_423 : decode cX0_steps 423 = .ok (.iconst 0, 1) := dk_3 (dk_at dksX0_steps_17 21 rfl rfl)
theorem dX0_steps_424 : decode cX0_steps 424 = .ok (.iconst 0, 1) := dk_3 (dk_at dksX0_steps_17 22 rfl rfl)
theorem dX0_steps_425 : decode cX0_steps 425 = .ok (.invokevirtual 52, 3) := dk_182 0 52 (dk_at dksX0_steps_18 0 rfl rfl)
theorem dX0_steps_428 : decode cX0_steps 428 = .ok (.pop, 1) := dk_87 (dk_at dksX0_steps_18 3 rfl rfl)
theorem dX0_steps_429 : decode cX0_steps 429 = .ok (.iconst 0, 1) := dk_3 (dk_at dksX0_steps_18 4 rfl rfl)
theorem dX0_steps_430 : decode cX0_steps 430 = .ok (.istore 6, 2) := dk_54 6 (dk_at dksX0_steps_18 5 rfl rfl)
theorem dX0_steps_432 : decode cX0_steps 432 = .ok (.iload 6, 2) := dk_21 6 (dk_at dksX0_steps_18 7 rfl rfl)
theorem dX0_steps_434 : decode cX0_steps 434 = .ok (.iload_n 1, 1) := dk_27 (dk_at dksX0_steps_18 9 rfl rfl)
theorem dX0_steps_435 : decode cX0_steps 435 = .ok (.if_icmp .ge 33, 3) := dk_162 0 33 (dk_at dksX0_steps_18 10 rfl rfl)
theorem dX0_steps_438 : decode cX0_steps 438 = .ok (.aload 5, 2) := dk_25 5 (dk_at dksX0_steps_18 13 rfl rfl)
theorem dX0_steps_440 : decode cX0_steps 440 = .ok (.iconst 0, 1) := dk_3 (dk_at dksX0_steps_18 15 rfl rfl)
theorem dX0_steps_441 : decode cX0_steps 441 = .ok (.iload 6, 2) := dk_21 6 (dk_at dksX0_steps_18 16 rfl rfl)
theorem dX0_steps_443 : decode cX0_steps 443 = .ok (.invokevirtual 24, 3) := dk_182 0 24 (dk_at dksX0_steps_18 18 rfl rfl)
theorem dX0_steps_446 : decode cX0_steps 446 = .ok (.ifCond .ne 14, 3) := dk_154 0 14 (dk_at dksX0_steps_18 21 rfl rfl)
theorem dX0_steps_449 : decode cX0_steps 449 = .ok (.aload 4, 2) := dk_25 4 (dk_at dksX0_steps_19 0 rfl rfl)
theorem dX0_steps_451 : decode cX0_steps 451 = .ok (.iconst 0, 1) := dk_3 (dk_at dksX0_steps_19 2 rfl rfl)
theorem dX0_steps_452 : decode cX0_steps 452 = .ok (.iload 6, 2) := dk_21 6 (dk_at dksX0_steps_19 3 rfl rfl)
theorem dX0_steps_454 : decode cX0_steps 454 = .ok (.invokevirtual 24, 3) := dk_182 0 24 (dk_at dksX0_steps_19 5 rfl rfl)
theorem dX0_steps_457 : decode cX0_steps 457 = .ok (.ifCond .eq 5, 3) := dk_153 0 5 (dk_at dksX0_steps_19 8 rfl rfl)
theorem dX0_steps_460 : decode cX0_steps 460 = .ok (.iconst 0, 1) := dk_3 (dk_at dksX0_steps_19 11 rfl rfl)
theorem dX0_steps_461 : decode cX0_steps 461 = .ok (.ireturn, 1) := dk_172 (dk_at dksX0_steps_19 12 rfl rfl)
theorem dX0_steps_462 : decode cX0_steps 462 = .ok (.iinc 6 1, 3) := dk_132 6 1 (dk_at dksX0_steps_19 13 rfl rfl)
theorem dX0_steps_465 : decode cX0_steps 465 = .ok (.goto (-33), 3) := dk_167 255 223 (dk_at dksX0_steps_19 16 rfl rfl)
theorem dX0_steps_468 : decode cX0_steps 468 = .ok (.iconst 1, 1) := dk_4 (dk_at dksX0_steps_19 19 rfl rfl)
theorem dX0_steps_469 : decode cX0_steps 469 = .ok (.ireturn, 1) := dk_172 (dk_at dksX0_steps_19 20 rfl rfl)
abbrev cX0_places : ByteArray := method_9_code
def yX0_places : MethodName := ⟨RX0, "places", "([I)Z"⟩
def dkwX0_places_12 : List UInt8 := [182, 0, 24, 153, 0, 5, 3, 172, 132, 4, 1, 167, 255, 223, 4, 172]
abbrev dktX0_places_12 : List UInt8 := dkwX0_places_12 ++ []
def dkwX0_places_11 : List UInt8 := [21, 4, 5, 29, 104, 162, 0, 31, 43, 21, 4, 182, 0, 28, 154, 0, 14, 43, 21, 4, 21, 4]
abbrev dktX0_places_11 : List UInt8 := dkwX0_places_11 ++ dktX0_places_12
def dkwX0_places_10 : List UInt8 := [182, 0, 24, 159, 0, 5, 3, 172, 43, 42, 3, 184, 0, 10, 18, 100, 128, 182, 0, 16, 3, 54, 4]
abbrev dktX0_places_10 : List UInt8 := dkwX0_places_10 ++ dktX0_places_11
def dkwX0_places_9 : List UInt8 := [16, 32, 182, 0, 28, 43, 3, 182, 0, 28, 160, 0, 19, 43, 4, 16, 240, 182, 0, 24, 43, 4, 3]
abbrev dktX0_places_9 : List UInt8 := dkwX0_places_9 ++ dktX0_places_10
def dkwX0_places_8 : List UInt8 := [184, 0, 55, 153, 0, 12, 43, 4, 8, 182, 0, 48, 154, 0, 5, 3, 172, 43, 3, 4, 182, 0, 36, 43]
abbrev dktX0_places_8 : List UInt8 := dkwX0_places_8 ++ dktX0_places_9
def dkwX0_places_7 : List UInt8 := [3, 172, 43, 5, 4, 5, 182, 0, 52, 87, 44, 6, 8, 16, 6, 182, 0, 52, 87, 43, 5, 44, 6, 29]
abbrev dktX0_places_7 : List UInt8 := dkwX0_places_7 ++ dktX0_places_8
def dkwX0_places_6 : List UInt8 := [4, 182, 0, 44, 87, 44, 6, 3, 4, 182, 0, 44, 87, 43, 3, 44, 6, 29, 184, 0, 55, 154, 0, 5]
abbrev dktX0_places_6 : List UInt8 := dkwX0_places_6 ++ dktX0_places_7
def dkwX0_places_5 : List UInt8 := [42, 184, 0, 32, 76, 42, 184, 0, 32, 77, 4, 42, 3, 184, 0, 10, 16, 15, 126, 96, 62, 43, 3, 3]
abbrev dktX0_places_5 : List UInt8 := dkwX0_places_5 ++ dktX0_places_6
def dkwX0_places_4 : List UInt8 := [16, 17, 182, 0, 24, 42, 6, 184, 0, 10, 160, 0, 12, 43, 3, 5, 182, 0, 24, 153, 0, 5, 3, 172]
abbrev dktX0_places_4 : List UInt8 := dkwX0_places_4 ++ dktX0_places_5
def dkwX0_places_3 : List UInt8 := [184, 0, 10, 160, 0, 42, 43, 3, 7, 182, 0, 24, 42, 5, 184, 0, 10, 160, 0, 28, 43, 16, 252]
abbrev dktX0_places_3 : List UInt8 := dkwX0_places_3 ++ dktX0_places_4
def dkwX0_places_2 : List UInt8 := [184, 0, 10, 42, 5, 184, 0, 10, 42, 6, 184, 0, 10, 182, 0, 20, 43, 3, 6, 182, 0, 24, 42, 4]
abbrev dktX0_places_2 : List UInt8 := dkwX0_places_2 ++ dktX0_places_3
def dkwX0_places_1 : List UInt8 := [154, 0, 11, 43, 28, 182, 0, 28, 153, 0, 5, 3, 172, 132, 2, 1, 167, 255, 228, 43, 7, 6, 42, 4]
abbrev dktX0_places_1 : List UInt8 := dkwX0_places_1 ++ dktX0_places_2
def dkwX0_places_0 : List UInt8 := [187, 0, 7, 89, 183, 0, 9, 76, 3, 61, 28, 16, 8, 162, 0, 28, 43, 28, 28, 182, 0, 24]
abbrev dktX0_places_0 : List UInt8 := dkwX0_places_0 ++ dktX0_places_1
theorem dksX0_places_0 : cX0_places.data.toList.drop 0 = dktX0_places_0 := by decide +kernel
theorem dksX0_places_1 : cX0_places.data.toList.drop 22 = dktX0_places_1 := dk_seg dksX0_places_0 22 rfl rfl
theorem dksX0_places_2 : cX0_places.data.toList.drop 46 = dktX0_places_2 := dk_seg dksX0_places_1 24 rfl rfl
theorem dksX0_places_3 : cX0_places.data.toList.drop 70 = dktX0_places_3 := dk_seg dksX0_places_2 24 rfl rfl
theorem dksX0_places_4 : cX0_places.data.toList.drop 93 = dktX0_places_4 := dk_seg dksX0_places_3 23 rfl rfl
theorem dksX0_places_5 : cX0_places.data.toList.drop 117 = dktX0_places_5 := dk_seg dksX0_places_4 24 rfl rfl
theorem dksX0_places_6 : cX0_places.data.toList.drop 141 = dktX0_places_6 := dk_seg dksX0_places_5 24 rfl rfl
theorem dksX0_places_7 : cX0_places.data.toList.drop 165 = dktX0_places_7 := dk_seg dksX0_places_6 24 rfl rfl
theorem dksX0_places_8 : cX0_places.data.toList.drop 189 = dktX0_places_8 := dk_seg dksX0_places_7 24 rfl rfl
theorem dksX0_places_9 : cX0_places.data.toList.drop 213 = dktX0_places_9 := dk_seg dksX0_places_8 24 rfl rfl
theorem dksX0_places_10 : cX0_places.data.toList.drop 236 = dktX0_places_10 := dk_seg dksX0_places_9 23 rfl rfl
theorem dksX0_places_11 : cX0_places.data.toList.drop 259 = dktX0_places_11 := dk_seg dksX0_places_10 23 rfl rfl
theorem dksX0_places_12 : cX0_places.data.toList.drop 281 = dktX0_places_12 := dk_seg dksX0_places_11 22 rfl rfl
theorem dX0_places_0 : decode cX0_places 0 = .ok (.new 7, 3) := dk_187 0 7 (dk_at dksX0_places_0 0 rfl rfl)
theorem dX0_places_3 : decode cX0_places 3 = .ok (.dup, 1) := dk_89 (dk_at dksX0_places_0 3 rfl rfl)
theorem dX0_places_4 : decode cX0_places 4 = .ok (.invokespecial 9, 3) := dk_183 0 9 (dk_at dksX0_places_0 4 rfl rfl)
theorem dX0_places_7 : decode cX0_places 7 = .ok (.astore_n 1, 1) := dk_76 (dk_at dksX0_places_0 7 rfl rfl)
theorem dX0_places_8 : decode cX0_places 8 = .ok (.iconst 0, 1) := dk_3 (dk_at dksX0_places_0 8 rfl rfl)
theorem dX0_places_9 : decode cX0_places 9 = .ok (.istore_n 2, 1) := dk_61 (dk_at dksX0_places_0 9 rfl rfl)
theorem dX0_places_10 : decode cX0_places 10 = .ok (.iload_n 2, 1) := dk_28 (dk_at dksX0_places_0 10 rfl rfl)
theorem dX0_places_11 : decode cX0_places 11 = .ok (.bipush 8, 2) := dk_16 8 (dk_at dksX0_places_0 11 rfl rfl)
theorem dX0_places_13 : decode cX0_places 13 = .ok (.if_icmp .ge 28, 3) := dk_162 0 28 (dk_at dksX0_places_0 13 rfl rfl)
theorem dX0_places_16 : decode cX0_places 16 = .ok (.aload_n 1, 1) := dk_43 (dk_at dksX0_places_0 16 rfl rfl)
theorem dX0_places_17 : decode cX0_places 17 = .ok (.iload_n 2, 1) := dk_28 (dk_at dksX0_places_0 17 rfl rfl)
theorem dX0_places_18 : decode cX0_places 18 = .ok (.iload_n 2, 1) := dk_28 (dk_at dksX0_places_0 18 rfl rfl)
theorem dX0_places_19 : decode cX0_places 19 = .ok (.invokevirtual 24, 3) := dk_182 0 24 (dk_at dksX0_places_0 19 rfl rfl)
theorem dX0_places_22 : decode cX0_places 22 = .ok (.ifCond .ne 11, 3) := dk_154 0 11 (dk_at dksX0_places_1 0 rfl rfl)
theorem dX0_places_25 : decode cX0_places 25 = .ok (.aload_n 1, 1) := dk_43 (dk_at dksX0_places_1 3 rfl rfl)
theorem dX0_places_26 : decode cX0_places 26 = .ok (.iload_n 2, 1) := dk_28 (dk_at dksX0_places_1 4 rfl rfl)
theorem dX0_places_27 : decode cX0_places 27 = .ok (.invokevirtual 28, 3) := dk_182 0 28 (dk_at dksX0_places_1 5 rfl rfl)
theorem dX0_places_30 : decode cX0_places 30 = .ok (.ifCond .eq 5, 3) := dk_153 0 5 (dk_at dksX0_places_1 8 rfl rfl)
theorem dX0_places_33 : decode cX0_places 33 = .ok (.iconst 0, 1) := dk_3 (dk_at dksX0_places_1 11 rfl rfl)
theorem dX0_places_34 : decode cX0_places 34 = .ok (.ireturn, 1) := dk_172 (dk_at dksX0_places_1 12 rfl rfl)
theorem dX0_places_35 : decode cX0_places 35 = .ok (.iinc 2 1, 3) := dk_132 2 1 (dk_at dksX0_places_1 13 rfl rfl)
theorem dX0_places_38 : decode cX0_places 38 = .ok (.goto (-28), 3) := dk_167 255 228 (dk_at dksX0_places_1 16 rfl rfl)
theorem dX0_places_41 : decode cX0_places 41 = .ok (.aload_n 1, 1) := dk_43 (dk_at dksX0_places_1 19 rfl rfl)
theorem dX0_places_42 : decode cX0_places 42 = .ok (.iconst 4, 1) := dk_7 (dk_at dksX0_places_1 20 rfl rfl)
theorem dX0_places_43 : decode cX0_places 43 = .ok (.iconst 3, 1) := dk_6 (dk_at dksX0_places_1 21 rfl rfl)
theorem dX0_places_44 : decode cX0_places 44 = .ok (.aload_n 0, 1) := dk_42 (dk_at dksX0_places_1 22 rfl rfl)
theorem dX0_places_45 : decode cX0_places 45 = .ok (.iconst 1, 1) := dk_4 (dk_at dksX0_places_1 23 rfl rfl)
theorem dX0_places_46 : decode cX0_places 46 = .ok (.invokestatic 10, 3) := dk_184 0 10 (dk_at dksX0_places_2 0 rfl rfl)
theorem dX0_places_49 : decode cX0_places 49 = .ok (.aload_n 0, 1) := dk_42 (dk_at dksX0_places_2 3 rfl rfl)
theorem dX0_places_50 : decode cX0_places 50 = .ok (.iconst 2, 1) := dk_5 (dk_at dksX0_places_2 4 rfl rfl)
theorem dX0_places_51 : decode cX0_places 51 = .ok (.invokestatic 10, 3) := dk_184 0 10 (dk_at dksX0_places_2 5 rfl rfl)
theorem dX0_places_54 : decode cX0_places 54 = .ok (.aload_n 0, 1) := dk_42 (dk_at dksX0_places_2 8 rfl rfl)
theorem dX0_places_55 : decode cX0_places 55 = .ok (.iconst 3, 1) := dk_6 (dk_at dksX0_places_2 9 rfl rfl)
theorem dX0_places_56 : decode cX0_places 56 = .ok (.invokestatic 10, 3) := dk_184 0 10 (dk_at dksX0_places_2 10 rfl rfl)
theorem dX0_places_59 : decode cX0_places 59 = .ok (.invokevirtual 20, 3) := dk_182 0 20 (dk_at dksX0_places_2 13 rfl rfl)
theorem dX0_places_62 : decode cX0_places 62 = .ok (.aload_n 1, 1) := dk_43 (dk_at dksX0_places_2 16 rfl rfl)
theorem dX0_places_63 : decode cX0_places 63 = .ok (.iconst 0, 1) := dk_3 (dk_at dksX0_places_2 17 rfl rfl)
theorem dX0_places_64 : decode cX0_places 64 = .ok (.iconst 3, 1) := dk_6 (dk_at dksX0_places_2 18 rfl rfl)
theorem dX0_places_65 : decode cX0_places 65 = .ok (.invokevirtual 24, 3) := dk_182 0 24 (dk_at dksX0_places_2 19 rfl rfl)
theorem dX0_places_68 : decode cX0_places 68 = .ok (.aload_n 0, 1) := dk_42 (dk_at dksX0_places_2 22 rfl rfl)
theorem dX0_places_69 : decode cX0_places 69 = .ok (.iconst 1, 1) := dk_4 (dk_at dksX0_places_2 23 rfl rfl)
theorem dX0_places_70 : decode cX0_places 70 = .ok (.invokestatic 10, 3) := dk_184 0 10 (dk_at dksX0_places_3 0 rfl rfl)
theorem dX0_places_73 : decode cX0_places 73 = .ok (.if_icmp .ne 42, 3) := dk_160 0 42 (dk_at dksX0_places_3 3 rfl rfl)
theorem dX0_places_76 : decode cX0_places 76 = .ok (.aload_n 1, 1) := dk_43 (dk_at dksX0_places_3 6 rfl rfl)
theorem dX0_places_77 : decode cX0_places 77 = .ok (.iconst 0, 1) := dk_3 (dk_at dksX0_places_3 7 rfl rfl)
theorem dX0_places_78 : decode cX0_places 78 = .ok (.iconst 4, 1) := dk_7 (dk_at dksX0_places_3 8 rfl rfl)
theorem dX0_places_79 : decode cX0_places 79 = .ok (.invokevirtual 24, 3) := dk_182 0 24 (dk_at dksX0_places_3 9 rfl rfl)
theorem dX0_places_82 : decode cX0_places 82 = .ok (.aload_n 0, 1) := dk_42 (dk_at dksX0_places_3 12 rfl rfl)
theorem dX0_places_83 : decode cX0_places 83 = .ok (.iconst 2, 1) := dk_5 (dk_at dksX0_places_3 13 rfl rfl)
theorem dX0_places_84 : decode cX0_places 84 = .ok (.invokestatic 10, 3) := dk_184 0 10 (dk_at dksX0_places_3 14 rfl rfl)
theorem dX0_places_87 : decode cX0_places 87 = .ok (.if_icmp .ne 28, 3) := dk_160 0 28 (dk_at dksX0_places_3 17 rfl rfl)
theorem dX0_places_90 : decode cX0_places 90 = .ok (.aload_n 1, 1) := dk_43 (dk_at dksX0_places_3 20 rfl rfl)
theorem dX0_places_91 : decode cX0_places 91 = .ok (.bipush (-4), 2) := dk_16 252 (dk_at dksX0_places_3 21 rfl rfl)
theorem dX0_places_93 : decode cX0_places 93 = .ok (.bipush 17, 2) := dk_16 17 (dk_at dksX0_places_4 0 rfl rfl)
theorem dX0_places_95 : decode cX0_places 95 = .ok (.invokevirtual 24, 3) := dk_182 0 24 (dk_at dksX0_places_4 2 rfl rfl)
theorem dX0_places_98 : decode cX0_places 98 = .ok (.aload_n 0, 1) := dk_42 (dk_at dksX0_places_4 5 rfl rfl)
theorem dX0_places_99 : decode cX0_places 99 = .ok (.iconst 3, 1) := dk_6 (dk_at dksX0_places_4 6 rfl rfl)
theorem dX0_places_100 : decode cX0_places 100 = .ok (.invokestatic 10, 3) := dk_184 0 10 (dk_at dksX0_places_4 7 rfl rfl)
theorem dX0_places_103 : decode cX0_places 103 = .ok (.if_icmp .ne 12, 3) := dk_160 0 12 (dk_at dksX0_places_4 10 rfl rfl)
theorem dX0_places_106 : decode cX0_places 106 = .ok (.aload_n 1, 1) := dk_43 (dk_at dksX0_places_4 13 rfl rfl)
theorem dX0_places_107 : decode cX0_places 107 = .ok (.iconst 0, 1) := dk_3 (dk_at dksX0_places_4 14 rfl rfl)
theorem dX0_places_108 : decode cX0_places 108 = .ok (.iconst 2, 1) := dk_5 (dk_at dksX0_places_4 15 rfl rfl)
theorem dX0_places_109 : decode cX0_places 109 = .ok (.invokevirtual 24, 3) := dk_182 0 24 (dk_at dksX0_places_4 16 rfl rfl)
theorem dX0_places_112 : decode cX0_places 112 = .ok (.ifCond .eq 5, 3) := dk_153 0 5 (dk_at dksX0_places_4 19 rfl rfl)
theorem dX0_places_115 : decode cX0_places 115 = .ok (.iconst 0, 1) := dk_3 (dk_at dksX0_places_4 22 rfl rfl)
theorem dX0_places_116 : decode cX0_places 116 = .ok (.ireturn, 1) := dk_172 (dk_at dksX0_places_4 23 rfl rfl)
theorem dX0_places_117 : decode cX0_places 117 = .ok (.aload_n 0, 1) := dk_42 (dk_at dksX0_places_5 0 rfl rfl)
theorem dX0_places_118 : decode cX0_places 118 = .ok (.invokestatic 32, 3) := dk_184 0 32 (dk_at dksX0_places_5 1 rfl rfl)
theorem dX0_places_121 : decode cX0_places 121 = .ok (.astore_n 1, 1) := dk_76 (dk_at dksX0_places_5 4 rfl rfl)
theorem dX0_places_122 : decode cX0_places 122 = .ok (.aload_n 0, 1) := dk_42 (dk_at dksX0_places_5 5 rfl rfl)
theorem dX0_places_123 : decode cX0_places 123 = .ok (.invokestatic 32, 3) := dk_184 0 32 (dk_at dksX0_places_5 6 rfl rfl)
theorem dX0_places_126 : decode cX0_places 126 = .ok (.astore_n 2, 1) := dk_77 (dk_at dksX0_places_5 9 rfl rfl)
theorem dX0_places_127 : decode cX0_places 127 = .ok (.iconst 1, 1) := dk_4 (dk_at dksX0_places_5 10 rfl rfl)
theorem dX0_places_128 : decode cX0_places 128 = .ok (.aload_n 0, 1) := dk_42 (dk_at dksX0_places_5 11 rfl rfl)
theorem dX0_places_129 : decode cX0_places 129 = .ok (.iconst 0, 1) := dk_3 (dk_at dksX0_places_5 12 rfl rfl)
theorem dX0_places_130 : decode cX0_places 130 = .ok (.invokestatic 10, 3) := dk_184 0 10 (dk_at dksX0_places_5 13 rfl rfl)
theorem dX0_places_133 : decode cX0_places 133 = .ok (.bipush 15, 2) := dk_16 15 (dk_at dksX0_places_5 16 rfl rfl)
theorem dX0_places_135 : decode cX0_places 135 = .ok (.iand, 1) := dk_126 (dk_at dksX0_places_5 18 rfl rfl)
theorem dX0_places_136 : decode cX0_places 136 = .ok (.iadd, 1) := dk_96 (dk_at dksX0_places_5 19 rfl rfl)
theorem dX0_places_137 : decode cX0_places 137 = .ok (.istore_n 3, 1) := dk_62 (dk_at dksX0_places_5 20 rfl rfl)
theorem dX0_places_138 : decode cX0_places 138 = .ok (.aload_n 1, 1) := dk_43 (dk_at dksX0_places_5 21 rfl rfl)
theorem dX0_places_139 : decode cX0_places 139 = .ok (.iconst 0, 1) := dk_3 (dk_at dksX0_places_5 22 rfl rfl)
theorem dX0_places_140 : decode cX0_places 140 = .ok (.iconst 0, 1) := dk_3 (dk_at dksX0_places_5 23 rfl rfl)
theorem dX0_places_141 : decode cX0_places 141 = .ok (.iconst 1, 1) := dk_4 (dk_at dksX0_places_6 0 rfl rfl)
theorem dX0_places_142 : decode cX0_places 142 = .ok (.invokevirtual 44, 3) := dk_182 0 44 (dk_at dksX0_places_6 1 rfl rfl)
theorem dX0_places_145 : decode cX0_places 145 = .ok (.pop, 1) := dk_87 (dk_at dksX0_places_6 4 rfl rfl)
theorem dX0_places_146 : decode cX0_places 146 = .ok (.aload_n 2, 1) := dk_44 (dk_at dksX0_places_6 5 rfl rfl)
theorem dX0_places_147 : decode cX0_places 147 = .ok (.iconst 3, 1) := dk_6 (dk_at dksX0_places_6 6 rfl rfl)
theorem dX0_places_148 : decode cX0_places 148 = .ok (.iconst 0, 1) := dk_3 (dk_at dksX0_places_6 7 rfl rfl)
theorem dX0_places_149 : decode cX0_places 149 = .ok (.iconst 1, 1) := dk_4 (dk_at dksX0_places_6 8 rfl rfl)
theorem dX0_places_150 : decode cX0_places 150 = .ok (.invokevirtual 44, 3) := dk_182 0 44 (dk_at dksX0_places_6 9 rfl rfl)
theorem dX0_places_153 : decode cX0_places 153 = .ok (.pop, 1) := dk_87 (dk_at dksX0_places_6 12 rfl rfl)
theorem dX0_places_154 : decode cX0_places 154 = .ok (.aload_n 1, 1) := dk_43 (dk_at dksX0_places_6 13 rfl rfl)
theorem dX0_places_155 : decode cX0_places 155 = .ok (.iconst 0, 1) := dk_3 (dk_at dksX0_places_6 14 rfl rfl)
theorem dX0_places_156 : decode cX0_places 156 = .ok (.aload_n 2, 1) := dk_44 (dk_at dksX0_places_6 15 rfl rfl)
theorem dX0_places_157 : decode cX0_places 157 = .ok (.iconst 3, 1) := dk_6 (dk_at dksX0_places_6 16 rfl rfl)
theorem dX0_places_158 : decode cX0_places 158 = .ok (.iload_n 3, 1) := dk_29 (dk_at dksX0_places_6 17 rfl rfl)
theorem dX0_places_159 : decode cX0_places 159 = .ok (.invokestatic 55, 3) := dk_184 0 55 (dk_at dksX0_places_6 18 rfl rfl)
theorem dX0_places_162 : decode cX0_places 162 = .ok (.ifCond .ne 5, 3) := dk_154 0 5 (dk_at dksX0_places_6 21 rfl rfl)
theorem dX0_places_165 : decode cX0_places 165 = .ok (.iconst 0, 1) := dk_3 (dk_at dksX0_places_7 0 rfl rfl)
theorem dX0_places_166 : decode cX0_places 166 = .ok (.ireturn, 1) := dk_172 (dk_at dksX0_places_7 1 rfl rfl)
theorem dX0_places_167 : decode cX0_places 167 = .ok (.aload_n 1, 1) := dk_43 (dk_at dksX0_places_7 2 rfl rfl)
theorem dX0_places_168 : decode cX0_places 168 = .ok (.iconst 2, 1) := dk_5 (dk_at dksX0_places_7 3 rfl rfl)
theorem dX0_places_169 : decode cX0_places 169 = .ok (.iconst 1, 1) := dk_4 (dk_at dksX0_places_7 4 rfl rfl)
theorem dX0_places_170 : decode cX0_places 170 = .ok (.iconst 2, 1) := dk_5 (dk_at dksX0_places_7 5 rfl rfl)
theorem dX0_places_171 : decode cX0_places 171 = .ok (.invokevirtual 52, 3) := dk_182 0 52 (dk_at dksX0_places_7 6 rfl rfl)
theorem dX0_places_174 : decode cX0_places 174 = .ok (.pop, 1) := dk_87 (dk_at dksX0_places_7 9 rfl rfl)
theorem dX0_places_175 : decode cX0_places 175 = .ok (.aload_n 2, 1) := dk_44 (dk_at dksX0_places_7 10 rfl rfl)
theorem dX0_places_176 : decode cX0_places 176 = .ok (.iconst 3, 1) := dk_6 (dk_at dksX0_places_7 11 rfl rfl)
theorem dX0_places_177 : decode cX0_places 177 = .ok (.iconst 5, 1) := dk_8 (dk_at dksX0_places_7 12 rfl rfl)
theorem dX0_places_178 : decode cX0_places 178 = .ok (.bipush 6, 2) := dk_16 6 (dk_at dksX0_places_7 13 rfl rfl)
theorem dX0_places_180 : decode cX0_places 180 = .ok (.invokevirtual 52, 3) := dk_182 0 52 (dk_at dksX0_places_7 15 rfl rfl)
theorem dX0_places_183 : decode cX0_places 183 = .ok (.pop, 1) := dk_87 (dk_at dksX0_places_7 18 rfl rfl)
theorem dX0_places_184 : decode cX0_places 184 = .ok (.aload_n 1, 1) := dk_43 (dk_at dksX0_places_7 19 rfl rfl)
theorem dX0_places_185 : decode cX0_places 185 = .ok (.iconst 2, 1) := dk_5 (dk_at dksX0_places_7 20 rfl rfl)
theorem dX0_places_186 : decode cX0_places 186 = .ok (.aload_n 2, 1) := dk_44 (dk_at dksX0_places_7 21 rfl rfl)
theorem dX0_places_187 : decode cX0_places 187 = .ok (.iconst 3, 1) := dk_6 (dk_at dksX0_places_7 22 rfl rfl)
theorem dX0_places_188 : decode cX0_places 188 = .ok (.iload_n 3, 1) := dk_29 (dk_at dksX0_places_7 23 rfl rfl)
theorem dX0_places_189 : decode cX0_places 189 = .ok (.invokestatic 55, 3) := dk_184 0 55 (dk_at dksX0_places_8 0 rfl rfl)
theorem dX0_places_192 : decode cX0_places 192 = .ok (.ifCond .eq 12, 3) := dk_153 0 12 (dk_at dksX0_places_8 3 rfl rfl)
theorem dX0_places_195 : decode cX0_places 195 = .ok (.aload_n 1, 1) := dk_43 (dk_at dksX0_places_8 6 rfl rfl)
theorem dX0_places_196 : decode cX0_places 196 = .ok (.iconst 1, 1) := dk_4 (dk_at dksX0_places_8 7 rfl rfl)
theorem dX0_places_197 : decode cX0_places 197 = .ok (.iconst 5, 1) := dk_8 (dk_at dksX0_places_8 8 rfl rfl)
theorem dX0_places_198 : decode cX0_places 198 = .ok (.invokevirtual 48, 3) := dk_182 0 48 (dk_at dksX0_places_8 9 rfl rfl)
theorem dX0_places_201 : decode cX0_places 201 = .ok (.ifCond .ne 5, 3) := dk_154 0 5 (dk_at dksX0_places_8 12 rfl rfl)
theorem dX0_places_204 : decode cX0_places 204 = .ok (.iconst 0, 1) := dk_3 (dk_at dksX0_places_8 15 rfl rfl)
theorem dX0_places_205 : decode cX0_places 205 = .ok (.ireturn, 1) := dk_172 (dk_at dksX0_places_8 16 rfl rfl)
theorem dX0_places_206 : decode cX0_places 206 = .ok (.aload_n 1, 1) := dk_43 (dk_at dksX0_places_8 17 rfl rfl)
theorem dX0_places_207 : decode cX0_places 207 = .ok (.iconst 0, 1) := dk_3 (dk_at dksX0_places_8 18 rfl rfl)
theorem dX0_places_208 : decode cX0_places 208 = .ok (.iconst 1, 1) := dk_4 (dk_at dksX0_places_8 19 rfl rfl)
theorem dX0_places_209 : decode cX0_places 209 = .ok (.invokevirtual 36, 3) := dk_182 0 36 (dk_at dksX0_places_8 20 rfl rfl)
theorem dX0_places_212 : decode cX0_places 212 = .ok (.aload_n 1, 1) := dk_43 (dk_at dksX0_places_8 23 rfl rfl)
theorem dX0_places_213 : decode cX0_places 213 = .ok (.bipush 32, 2) := dk_16 32 (dk_at dksX0_places_9 0 rfl rfl)
theorem dX0_places_215 : decode cX0_places 215 = .ok (.invokevirtual 28, 3) := dk_182 0 28 (dk_at dksX0_places_9 2 rfl rfl)
theorem dX0_places_218 : decode cX0_places 218 = .ok (.aload_n 1, 1) := dk_43 (dk_at dksX0_places_9 5 rfl rfl)
theorem dX0_places_219 : decode cX0_places 219 = .ok (.iconst 0, 1) := dk_3 (dk_at dksX0_places_9 6 rfl rfl)
theorem dX0_places_220 : decode cX0_places 220 = .ok (.invokevirtual 28, 3) := dk_182 0 28 (dk_at dksX0_places_9 7 rfl rfl)
theorem dX0_places_223 : decode cX0_places 223 = .ok (.if_icmp .ne 19, 3) := dk_160 0 19 (dk_at dksX0_places_9 10 rfl rfl)
theorem dX0_places_226 : decode cX0_places 226 = .ok (.aload_n 1, 1) := dk_43 (dk_at dksX0_places_9 13 rfl rfl)
theorem dX0_places_227 : decode cX0_places 227 = .ok (.iconst 1, 1) := dk_4 (dk_at dksX0_places_9 14 rfl rfl)
theorem dX0_places_228 : decode cX0_places 228 = .ok (.bipush (-16), 2) := dk_16 240 (dk_at dksX0_places_9 15 rfl rfl)
theorem dX0_places_230 : decode cX0_places 230 = .ok (.invokevirtual 24, 3) := dk_182 0 24 (dk_at dksX0_places_9 17 rfl rfl)
theorem dX0_places_233 : decode cX0_places 233 = .ok (.aload_n 1, 1) := dk_43 (dk_at dksX0_places_9 20 rfl rfl)
theorem dX0_places_234 : decode cX0_places 234 = .ok (.iconst 1, 1) := dk_4 (dk_at dksX0_places_9 21 rfl rfl)
theorem dX0_places_235 : decode cX0_places 235 = .ok (.iconst 0, 1) := dk_3 (dk_at dksX0_places_9 22 rfl rfl)
theorem dX0_places_236 : decode cX0_places 236 = .ok (.invokevirtual 24, 3) := dk_182 0 24 (dk_at dksX0_places_10 0 rfl rfl)
theorem dX0_places_239 : decode cX0_places 239 = .ok (.if_icmp .eq 5, 3) := dk_159 0 5 (dk_at dksX0_places_10 3 rfl rfl)
theorem dX0_places_242 : decode cX0_places 242 = .ok (.iconst 0, 1) := dk_3 (dk_at dksX0_places_10 6 rfl rfl)
theorem dX0_places_243 : decode cX0_places 243 = .ok (.ireturn, 1) := dk_172 (dk_at dksX0_places_10 7 rfl rfl)
theorem dX0_places_244 : decode cX0_places 244 = .ok (.aload_n 1, 1) := dk_43 (dk_at dksX0_places_10 8 rfl rfl)
theorem dX0_places_245 : decode cX0_places 245 = .ok (.aload_n 0, 1) := dk_42 (dk_at dksX0_places_10 9 rfl rfl)
theorem dX0_places_246 : decode cX0_places 246 = .ok (.iconst 0, 1) := dk_3 (dk_at dksX0_places_10 10 rfl rfl)
theorem dX0_places_247 : decode cX0_places 247 = .ok (.invokestatic 10, 3) := dk_184 0 10 (dk_at dksX0_places_10 11 rfl rfl)
theorem dX0_places_250 : decode cX0_places 250 = .ok (.ldc 100, 2) := dk_18 100 (dk_at dksX0_places_10 14 rfl rfl)
theorem dX0_places_252 : decode cX0_places 252 = .ok (.ior, 1) := dk_128 (dk_at dksX0_places_10 16 rfl rfl)
theorem dX0_places_253 : decode cX0_places 253 = .ok (.invokevirtual 16, 3) := dk_182 0 16 (dk_at dksX0_places_10 17 rfl rfl)
theorem dX0_places_256 : decode cX0_places 256 = .ok (.iconst 0, 1) := dk_3 (dk_at dksX0_places_10 20 rfl rfl)
theorem dX0_places_257 : decode cX0_places 257 = .ok (.istore 4, 2) := dk_54 4 (dk_at dksX0_places_10 21 rfl rfl)
theorem dX0_places_259 : decode cX0_places 259 = .ok (.iload 4, 2) := dk_21 4 (dk_at dksX0_places_11 0 rfl rfl)
theorem dX0_places_261 : decode cX0_places 261 = .ok (.iconst 2, 1) := dk_5 (dk_at dksX0_places_11 2 rfl rfl)
theorem dX0_places_262 : decode cX0_places 262 = .ok (.iload_n 3, 1) := dk_29 (dk_at dksX0_places_11 3 rfl rfl)
theorem dX0_places_263 : decode cX0_places 263 = .ok (.imul, 1) := dk_104 (dk_at dksX0_places_11 4 rfl rfl)
theorem dX0_places_264 : decode cX0_places 264 = .ok (.if_icmp .ge 31, 3) := dk_162 0 31 (dk_at dksX0_places_11 5 rfl rfl)
theorem dX0_places_267 : decode cX0_places 267 = .ok (.aload_n 1, 1) := dk_43 (dk_at dksX0_places_11 8 rfl rfl)
theorem dX0_places_268 : decode cX0_places 268 = .ok (.iload 4, 2) := dk_21 4 (dk_at dksX0_places_11 9 rfl rfl)
theorem dX0_places_270 : decode cX0_places 270 = .ok (.invokevirtual 28, 3) := dk_182 0 28 (dk_at dksX0_places_11 11 rfl rfl)
theorem dX0_places_273 : decode cX0_places 273 = .ok (.ifCond .ne 14, 3) := dk_154 0 14 (dk_at dksX0_places_11 14 rfl rfl)
theorem dX0_places_276 : decode cX0_places 276 = .ok (.aload_n 1, 1) := dk_43 (dk_at dksX0_places_11 17 rfl rfl)
theorem dX0_places_277 : decode cX0_places 277 = .ok (.iload 4, 2) := dk_21 4 (dk_at dksX0_places_11 18 rfl rfl)
theorem dX0_places_279 : decode cX0_places 279 = .ok (.iload 4, 2) := dk_21 4 (dk_at dksX0_places_11 20 rfl rfl)
theorem dX0_places_281 : decode cX0_places 281 = .ok (.invokevirtual 24, 3) := dk_182 0 24 (dk_at dksX0_places_12 0 rfl rfl)
theorem dX0_places_284 : decode cX0_places 284 = .ok (.ifCond .eq 5, 3) := dk_153 0 5 (dk_at dksX0_places_12 3 rfl rfl)
theorem dX0_places_287 : decode cX0_places 287 = .ok (.iconst 0, 1) := dk_3 (dk_at dksX0_places_12 6 rfl rfl)
theorem dX0_places_288 : decode cX0_places 288 = .ok (.ireturn, 1) := dk_172 (dk_at dksX0_places_12 7 rfl rfl)
theorem dX0_places_289 : decode cX0_places 289 = .ok (.iinc 4 1, 3) := dk_132 4 1 (dk_at dksX0_places_12 8 rfl rfl)
theorem dX0_places_292 : decode cX0_places 292 = .ok (.goto (-33), 3) := dk_167 255 223 (dk_at dksX0_places_12 11 rfl rfl)
theorem dX0_places_295 : decode cX0_places 295 = .ok (.iconst 1, 1) := dk_4 (dk_at dksX0_places_12 14 rfl rfl)
theorem dX0_places_296 : decode cX0_places 296 = .ok (.ireturn, 1) := dk_172 (dk_at dksX0_places_12 15 rfl rfl)
theorem q0 : (Jvm.Cond.initialized "WholeFileLaw") ∈ lw_all := lw_g (lw_at lw_m0 0 rfl) rfl
theorem q3 : (Jvm.Cond.methodLink "WholeFileLaw" (24 : Nat) ({ cls := "WholeFile", name := "word", desc := "(II)I" } : Jvm.MethodName)) ∈ lw_all := lw_g (lw_at lw_m0 3 rfl) rfl
theorem q7 : (Jvm.Cond.methodLink "WholeFileLaw" (44 : Nat) ({ cls := "WholeFile", name := "add", desc := "(III)I" } : Jvm.MethodName)) ∈ lw_all := lw_g (lw_at lw_m0 7 rfl) rfl
theorem q15 : (Jvm.Cond.methodLink "WholeFileLaw" (52 : Nat) ({ cls := "WholeFile", name := "subtract", desc := "(III)I" } : Jvm.MethodName)) ∈ lw_all := lw_g (lw_at lw_m0 15 rfl) rfl
theorem q22 : (Jvm.Cond.methodLink "WholeFileLaw" (36 : Nat) ({ cls := "WholeFile", name := "multiply", desc := "(II)V" } : Jvm.MethodName)) ∈ lw_all := lw_g (lw_at lw_m0 22 rfl) rfl
theorem q35 : (Jvm.Cond.methodLink "WholeFileLaw" (66 : Nat) ({ cls := "WholeFile", name := "square", desc := "(I)V" } : Jvm.MethodName)) ∈ lw_all := lw_g (lw_at lw_m0 35 rfl) rfl
theorem q48 : (Jvm.Cond.methodLink "WholeFileLaw" (63 : Nat) ({ cls := "WholeFile", name := "multiplyAdd", desc := "(II)I" } : Jvm.MethodName)) ∈ lw_all := lw_g (lw_at lw_m0 48 rfl) rfl
theorem q55 : (Jvm.Cond.methodLink "WholeFileLaw" (70 : Nat) ({ cls := "WholeFile", name := "up", desc := "(II)I" } : Jvm.MethodName)) ∈ lw_all := lw_g (lw_at lw_m0 55 rfl) rfl
theorem q63 : (Jvm.Cond.methodLink "WholeFileLaw" (73 : Nat) ({ cls := "WholeFile", name := "down", desc := "(II)I" } : Jvm.MethodName)) ∈ lw_all := lw_g (lw_at lw_m0 63 rfl) rfl
theorem q70 : (Jvm.Cond.methodLink "WholeFileLaw" (76 : Nat) ({ cls := "WholeFile", name := "more", desc := "(I)I" } : Jvm.MethodName)) ∈ lw_all := lw_g (lw_at lw_m0 70 rfl) rfl
theorem q77 : (Jvm.Cond.methodLink "WholeFileLaw" (79 : Nat) ({ cls := "WholeFile", name := "less", desc := "(I)I" } : Jvm.MethodName)) ∈ lw_all := lw_g (lw_at lw_m0 77 rfl) rfl
theorem q84 : (Jvm.Cond.methodLink "WholeFileLaw" (48 : Nat) ({ cls := "WholeFile", name := "atLeast", desc := "(II)Z" } : Jvm.MethodName)) ∈ lw_all := lw_g (lw_at lw_m0 84 rfl) rfl
theorem q92 : (Jvm.Cond.methodLink "WholeFileLaw" (28 : Nat) ({ cls := "WholeFile", name := "wide", desc := "(I)I" } : Jvm.MethodName)) ∈ lw_all := lw_g (lw_at lw_m0 92 rfl) rfl
theorem q96 : (Jvm.Cond.methodLink "WholeFileLaw" (10 : Nat) ({ cls := "WholeFileLaw", name := "cell", desc := "([II)I" } : Jvm.MethodName)) ∈ lw_all := lw_g (lw_at lw_m0 96 rfl) rfl
theorem q97 : (Jvm.Cond.static ({ cls := "WholeFileLaw", name := "cell", desc := "([II)I" } : Jvm.MethodName)) ∈ lw_all := lw_g (lw_at lw_m0 97 rfl) rfl
theorem q98 : (Jvm.Cond.code ({ cls := "WholeFileLaw", name := "cell", desc := "([II)I" } : Jvm.MethodName) method_2_code (2 : Nat) (Option.some Jvm.ClassFile.FieldType.int)) ∈ lw_all := lw_g (lw_at lw_m0 98 rfl) rfl
theorem q99 : (Jvm.Cond.methodLink "WholeFileLaw" (32 : Nat) ({ cls := "WholeFileLaw", name := "three", desc := "([I)LWholeFile;" } : Jvm.MethodName)) ∈ lw_all := lw_g (lw_at lw_m0 99 rfl) rfl
theorem q100 : (Jvm.Cond.static ({ cls := "WholeFileLaw", name := "three", desc := "([I)LWholeFile;" } : Jvm.MethodName)) ∈ lw_all := lw_g (lw_at lw_m0 100 rfl) rfl
theorem q101 : (Jvm.Cond.code ({ cls := "WholeFileLaw", name := "three", desc := "([I)LWholeFile;" } : Jvm.MethodName) method_3_code (6 : Nat) (Option.some (Jvm.ClassFile.FieldType.object "WholeFile"))) ∈ lw_all := lw_g (lw_at lw_m0 101 rfl) rfl
theorem q102 : (Jvm.Cond.classLink "WholeFileLaw" (7 : Nat) "WholeFile") ∈ lw_all := lw_g (lw_at lw_m0 102 rfl) rfl
theorem q104 : (Jvm.Cond.methodLink "WholeFileLaw" (9 : Nat) ({ cls := "WholeFile", name := "<init>", desc := "()V" } : Jvm.MethodName)) ∈ lw_all := lw_g (lw_at lw_m0 104 rfl) rfl
theorem q123 : (Jvm.Cond.methodLink "WholeFileLaw" (16 : Nat) ({ cls := "WholeFile", name := "width", desc := "(I)V" } : Jvm.MethodName)) ∈ lw_all := lw_g (lw_at lw_m0 123 rfl) rfl
theorem q127 : (Jvm.Cond.methodLink "WholeFileLaw" (20 : Nat) ({ cls := "WholeFile", name := "put", desc := "(IIIII)V" } : Jvm.MethodName)) ∈ lw_all := lw_g (lw_at lw_m0 127 rfl) rfl
theorem q131 : (Jvm.Cond.methodLink "WholeFileLaw" (55 : Nat) ({ cls := "WholeFileLaw", name := "same", desc := "(LWholeFile;ILWholeFile;II)Z" } : Jvm.MethodName)) ∈ lw_all := lw_g (lw_at lw_m0 131 rfl) rfl
theorem q132 : (Jvm.Cond.static ({ cls := "WholeFileLaw", name := "same", desc := "(LWholeFile;ILWholeFile;II)Z" } : Jvm.MethodName)) ∈ lw_all := lw_g (lw_at lw_m0 132 rfl) rfl
theorem q133 : (Jvm.Cond.code ({ cls := "WholeFileLaw", name := "same", desc := "(LWholeFile;ILWholeFile;II)Z" } : Jvm.MethodName) method_4_code (6 : Nat) (Option.some Jvm.ClassFile.FieldType.boolean)) ∈ lw_all := lw_g (lw_at lw_m0 133 rfl) rfl
theorem q134 : (Jvm.Cond.methodLink "WholeFileLaw" (59 : Nat) ({ cls := "WholeFileLaw", name := "sameWide", desc := "(LWholeFile;LWholeFile;I)Z" } : Jvm.MethodName)) ∈ lw_all := lw_g (lw_at lw_m0 134 rfl) rfl
theorem q135 : (Jvm.Cond.static ({ cls := "WholeFileLaw", name := "sameWide", desc := "(LWholeFile;LWholeFile;I)Z" } : Jvm.MethodName)) ∈ lw_all := lw_g (lw_at lw_m0 135 rfl) rfl
theorem q136 : (Jvm.Cond.code ({ cls := "WholeFileLaw", name := "sameWide", desc := "(LWholeFile;LWholeFile;I)Z" } : Jvm.MethodName) method_5_code (4 : Nat) (Option.some Jvm.ClassFile.FieldType.boolean)) ∈ lw_all := lw_g (lw_at lw_m0 136 rfl) rfl
theorem q137 : (Jvm.Cond.methodLink "WholeFileLaw" (82 : Nat) ({ cls := "WholeFileLaw", name := "added", desc := "([I)Z" } : Jvm.MethodName)) ∈ lw_all := lw_g (lw_at lw_m0 137 rfl) rfl
theorem q138 : (Jvm.Cond.static ({ cls := "WholeFileLaw", name := "added", desc := "([I)Z" } : Jvm.MethodName)) ∈ lw_all := lw_g (lw_at lw_m0 138 rfl) rfl
theorem q139 : (Jvm.Cond.code ({ cls := "WholeFileLaw", name := "added", desc := "([I)Z" } : Jvm.MethodName) method_7_code (11 : Nat) (Option.some Jvm.ClassFile.FieldType.boolean)) ∈ lw_all := lw_g (lw_at lw_m0 139 rfl) rfl
theorem q140 : (Jvm.Cond.constantLong "WholeFileLaw" (40 : Nat) (4294967295 : Int64)) ∈ lw_all := lw_g (lw_at lw_m0 140 rfl) rfl
theorem q141 : (Jvm.Cond.methodLink "WholeFileLaw" (92 : Nat) ({ cls := "WholeFile", name := "half", desc := "(II)V" } : Jvm.MethodName)) ∈ lw_all := lw_g (lw_at lw_m0 141 rfl) rfl
theorem q145 : (Jvm.Cond.methodLink "WholeFileLaw" (95 : Nat) ({ cls := "WholeFile", name := "byWord", desc := "(III)I" } : Jvm.MethodName)) ∈ lw_all := lw_g (lw_at lw_m0 145 rfl) rfl
theorem q150 : (Jvm.Cond.methodLink "WholeFileLaw" (86 : Nat) ({ cls := "WholeFileLaw", name := "steps", desc := "([I)Z" } : Jvm.MethodName)) ∈ lw_all := lw_g (lw_at lw_m0 150 rfl) rfl
theorem q151 : (Jvm.Cond.static ({ cls := "WholeFileLaw", name := "steps", desc := "([I)Z" } : Jvm.MethodName)) ∈ lw_all := lw_g (lw_at lw_m0 151 rfl) rfl
theorem q152 : (Jvm.Cond.code ({ cls := "WholeFileLaw", name := "steps", desc := "([I)Z" } : Jvm.MethodName) method_8_code (12 : Nat) (Option.some Jvm.ClassFile.FieldType.boolean)) ∈ lw_all := lw_g (lw_at lw_m0 152 rfl) rfl
theorem q153 : (Jvm.Cond.constant "WholeFileLaw" (69 : Nat) (2147483647 : Int32)) ∈ lw_all := lw_g (lw_at lw_m0 153 rfl) rfl
theorem q154 : (Jvm.Cond.methodLink "WholeFileLaw" (89 : Nat) ({ cls := "WholeFileLaw", name := "places", desc := "([I)Z" } : Jvm.MethodName)) ∈ lw_all := lw_g (lw_at lw_m0 154 rfl) rfl
theorem q155 : (Jvm.Cond.static ({ cls := "WholeFileLaw", name := "places", desc := "([I)Z" } : Jvm.MethodName)) ∈ lw_all := lw_g (lw_at lw_m0 155 rfl) rfl
theorem q156 : (Jvm.Cond.code ({ cls := "WholeFileLaw", name := "places", desc := "([I)Z" } : Jvm.MethodName) method_9_code (5 : Nat) (Option.some Jvm.ClassFile.FieldType.boolean)) ∈ lw_all := lw_g (lw_at lw_m0 156 rfl) rfl
theorem q157 : (Jvm.Cond.constant "WholeFileLaw" (100 : Nat) (-2147483648 : Int32)) ∈ lw_all := lw_g (lw_at lw_m0 157 rfl) rfl
theorem q158 : (Jvm.Cond.constantLong "WholeFileLaw" (42 : Nat) (65535 : Int64)) ∈ lw_all := lw_g (lw_at lw_m0 158 rfl) rfl
/-! the law's own entry -/
set_option maxRecDepth 100000
abbrev cL_law : ByteArray := code
def dkwL_law_30 : List UInt8 := [4, 167, 0, 4, 3, 172]
abbrev dktL_law_30 : List UInt8 := dkwL_law_30 ++ []
def dkwL_law_29 : List UInt8 := [153, 0, 28, 42, 184, 0, 82, 153, 0, 21, 42, 184, 0, 86, 153, 0, 14, 42, 184, 0, 89, 153, 0, 7]
abbrev dktL_law_29 : List UInt8 := dkwL_law_29 ++ dktL_law_30
def dkwL_law_28 : List UInt8 := [4, 182, 0, 79, 54, 10, 21, 9, 21, 10, 116, 160, 0, 39, 44, 4, 45, 4, 27, 184, 0, 55]
abbrev dktL_law_28 : List UInt8 := dkwL_law_28 ++ dktL_law_29
def dkwL_law_27 : List UInt8 := [27, 4, 100, 182, 0, 24, 2, 21, 7, 124, 126, 159, 0, 5, 3, 172, 44, 4, 182, 0, 76, 54, 9, 44]
abbrev dktL_law_27 : List UInt8 := dkwL_law_27 ++ dktL_law_28
def dkwL_law_26 : List UInt8 := [182, 0, 24, 159, 0, 5, 3, 172, 132, 9, 1, 167, 255, 226, 44, 3, 27, 4, 100, 182, 0, 24, 45, 3]
abbrev dktL_law_26 : List UInt8 := dkwL_law_26 ++ dktL_law_27
def dkwL_law_25 : List UInt8 := [3, 172, 3, 54, 9, 21, 9, 27, 4, 100, 162, 0, 28, 44, 3, 21, 9, 182, 0, 24, 45, 3, 21, 9]
abbrev dktL_law_25 : List UInt8 := dkwL_law_25 ++ dktL_law_26
def dkwL_law_24 : List UInt8 := [54, 8, 44, 3, 21, 6, 182, 0, 70, 21, 8, 160, 0, 13, 44, 3, 21, 6, 182, 0, 73, 153, 0, 5]
abbrev dktL_law_24 : List UInt8 := dkwL_law_24 ++ dktL_law_25
def dkwL_law_23 : List UInt8 := [18, 69, 126, 16, 31, 112, 96, 54, 7, 44, 3, 27, 4, 100, 182, 0, 24, 16, 32, 21, 7, 100, 124]
abbrev dktL_law_23 : List UInt8 := dkwL_law_23 ++ dktL_law_24
def dkwL_law_22 : List UInt8 := [182, 0, 36, 44, 45, 27, 184, 0, 59, 154, 0, 5, 3, 172, 42, 4, 184, 0, 10, 54, 6, 4, 21, 6]
abbrev dktL_law_22 : List UInt8 := dkwL_law_22 ++ dktL_law_23
def dkwL_law_21 : List UInt8 := [160, 0, 12, 44, 45, 27, 184, 0, 59, 154, 0, 5, 3, 172, 44, 3, 182, 0, 66, 45, 3, 3]
abbrev dktL_law_21 : List UInt8 := dkwL_law_21 ++ dktL_law_22
def dkwL_law_20 : List UInt8 := [172, 44, 3, 5, 182, 0, 63, 54, 5, 45, 5, 3, 182, 0, 36, 45, 4, 3, 182, 0, 63, 21, 5]
abbrev dktL_law_20 : List UInt8 := dkwL_law_20 ++ dktL_law_21
def dkwL_law_19 : List UInt8 := [3, 172, 44, 3, 4, 182, 0, 36, 45, 4, 3, 182, 0, 36, 44, 45, 27, 184, 0, 59, 154, 0, 5, 3]
abbrev dktL_law_19 : List UInt8 := dkwL_law_19 ++ dktL_law_20
def dkwL_law_18 : List UInt8 := [44, 6, 6, 4, 182, 0, 52, 21, 4, 116, 160, 0, 14, 44, 6, 44, 3, 27, 184, 0, 55, 154, 0, 5]
abbrev dktL_law_18 : List UInt8 := dkwL_law_18 ++ dktL_law_19
def dkwL_law_17 : List UInt8 := [154, 0, 7, 4, 167, 0, 4, 3, 160, 0, 14, 21, 4, 153, 0, 11, 21, 4, 4, 159, 0, 5, 3, 172]
abbrev dktL_law_17 : List UInt8 := dkwL_law_17 ++ dktL_law_18
def dkwL_law_16 : List UInt8 := [132, 4, 1, 167, 255, 205, 44, 6, 3, 4, 182, 0, 44, 54, 4, 44, 6, 3, 182, 0, 48, 21, 4]
abbrev dktL_law_16 : List UInt8 := dkwL_law_16 ++ dktL_law_17
def dkwL_law_15 : List UInt8 := [4, 16, 16, 21, 4, 104, 96, 21, 5, 96, 184, 0, 10, 159, 0, 5, 3, 172, 132, 5, 1, 167, 255, 220]
abbrev dktL_law_15 : List UInt8 := dkwL_law_15 ++ dktL_law_16
def dkwL_law_14 : List UInt8 := [21, 4, 6, 162, 0, 51, 3, 54, 5, 21, 5, 27, 162, 0, 36, 44, 21, 4, 21, 5, 182, 0, 24, 42]
abbrev dktL_law_14 : List UInt8 := dkwL_law_14 ++ dktL_law_15
def dkwL_law_13 : List UInt8 := [42, 3, 184, 0, 10, 16, 15, 126, 96, 60, 42, 184, 0, 32, 77, 42, 184, 0, 32, 78, 3, 54, 4]
abbrev dktL_law_13 : List UInt8 := dkwL_law_13 ++ dktL_law_14
def dkwL_law_12 : List UInt8 := [22, 4, 16, 32, 125, 55, 4, 132, 7, 1, 167, 255, 192, 21, 6, 22, 4, 136, 159, 0, 5, 3, 172, 4]
abbrev dktL_law_12 : List UInt8 := dkwL_law_12 ++ dktL_law_13
def dkwL_law_11 : List UInt8 := [133, 20, 0, 40, 127, 97, 97, 55, 4, 43, 6, 21, 7, 182, 0, 24, 22, 4, 136, 159, 0, 5, 3, 172]
abbrev dktL_law_11 : List UInt8 := dkwL_law_11 ++ dktL_law_12
def dkwL_law_10 : List UInt8 := [22, 4, 42, 4, 21, 7, 96, 184, 0, 10, 133, 20, 0, 40, 127, 42, 16, 17, 21, 7, 96, 184, 0, 10]
abbrev dktL_law_10 : List UInt8 := dkwL_law_10 ++ dktL_law_11
def dkwL_law_9 : List UInt8 := [167, 255, 229, 9, 55, 4, 43, 6, 3, 4, 182, 0, 44, 54, 6, 3, 54, 7, 21, 7, 28, 162, 0, 64]
abbrev dktL_law_9 : List UInt8 := dkwL_law_9 ++ dktL_law_10
def dkwL_law_8 : List UInt8 := [104, 162, 0, 25, 43, 21, 4, 182, 0, 28, 45, 21, 4, 47, 136, 159, 0, 5, 3, 172, 132, 4, 1]
abbrev dktL_law_8 : List UInt8 := dkwL_law_8 ++ dktL_law_9
def dkwL_law_7 : List UInt8 := [167, 255, 149, 45, 21, 4, 28, 96, 22, 5, 80, 132, 4, 1, 167, 255, 108, 3, 54, 4, 21, 4, 5, 28]
abbrev dktL_law_7 : List UInt8 := dkwL_law_7 ++ dktL_law_8
def dkwL_law_6 : List UInt8 := [22, 14, 16, 16, 125, 97, 55, 5, 45, 21, 4, 21, 9, 96, 22, 16, 20, 0, 40, 127, 80, 132, 9, 1]
abbrev dktL_law_6 : List UInt8 := dkwL_law_6 ++ dktL_law_7
def dkwL_law_5 : List UInt8 := [97, 22, 14, 20, 0, 42, 127, 16, 16, 121, 97, 55, 16, 22, 16, 16, 32, 125, 22, 12, 16, 32, 125, 97]
abbrev dktL_law_5 : List UInt8 := dkwL_law_5 ++ dktL_law_6
def dkwL_law_4 : List UInt8 := [22, 10, 16, 16, 125, 105, 55, 14, 45, 21, 4, 21, 9, 96, 47, 22, 5, 97, 22, 12, 20, 0, 40, 127]
abbrev dktL_law_4 : List UInt8 := dkwL_law_4 ++ dktL_law_5
def dkwL_law_3 : List UInt8 := [184, 0, 10, 133, 20, 0, 40, 127, 55, 10, 22, 7, 22, 10, 20, 0, 42, 127, 105, 55, 12, 22, 7]
abbrev dktL_law_3 : List UInt8 := dkwL_law_3 ++ dktL_law_4
def dkwL_law_2 : List UInt8 := [133, 20, 0, 40, 127, 55, 7, 3, 54, 9, 21, 9, 28, 162, 0, 107, 42, 16, 17, 21, 9, 96]
abbrev dktL_law_2 : List UInt8 := dkwL_law_2 ++ dktL_law_3
def dkwL_law_1 : List UInt8 := [104, 188, 11, 78, 3, 54, 4, 21, 4, 28, 162, 0, 148, 9, 55, 5, 42, 4, 21, 4, 96, 184, 0, 10]
abbrev dktL_law_1 : List UInt8 := dkwL_law_1 ++ dktL_law_2
def dkwL_law_0 : List UInt8 := [42, 184, 0, 32, 76, 4, 42, 3, 184, 0, 10, 16, 15, 126, 96, 61, 43, 3, 4, 182, 0, 36, 5, 28]
abbrev dktL_law_0 : List UInt8 := dkwL_law_0 ++ dktL_law_1
theorem dksL_law_0 : cL_law.data.toList.drop 0 = dktL_law_0 := by decide +kernel
theorem dksL_law_1 : cL_law.data.toList.drop 24 = dktL_law_1 := dk_seg dksL_law_0 24 rfl rfl
theorem dksL_law_2 : cL_law.data.toList.drop 48 = dktL_law_2 := dk_seg dksL_law_1 24 rfl rfl
theorem dksL_law_3 : cL_law.data.toList.drop 70 = dktL_law_3 := dk_seg dksL_law_2 22 rfl rfl
theorem dksL_law_4 : cL_law.data.toList.drop 93 = dktL_law_4 := dk_seg dksL_law_3 23 rfl rfl
theorem dksL_law_5 : cL_law.data.toList.drop 117 = dktL_law_5 := dk_seg dksL_law_4 24 rfl rfl
theorem dksL_law_6 : cL_law.data.toList.drop 141 = dktL_law_6 := dk_seg dksL_law_5 24 rfl rfl
theorem dksL_law_7 : cL_law.data.toList.drop 165 = dktL_law_7 := dk_seg dksL_law_6 24 rfl rfl
theorem dksL_law_8 : cL_law.data.toList.drop 189 = dktL_law_8 := dk_seg dksL_law_7 24 rfl rfl
theorem dksL_law_9 : cL_law.data.toList.drop 212 = dktL_law_9 := dk_seg dksL_law_8 23 rfl rfl
theorem dksL_law_10 : cL_law.data.toList.drop 236 = dktL_law_10 := dk_seg dksL_law_9 24 rfl rfl
theorem dksL_law_11 : cL_law.data.toList.drop 260 = dktL_law_11 := dk_seg dksL_law_10 24 rfl rfl
theorem dksL_law_12 : cL_law.data.toList.drop 284 = dktL_law_12 := dk_seg dksL_law_11 24 rfl rfl
theorem dksL_law_13 : cL_law.data.toList.drop 308 = dktL_law_13 := dk_seg dksL_law_12 24 rfl rfl
theorem dksL_law_14 : cL_law.data.toList.drop 331 = dktL_law_14 := dk_seg dksL_law_13 23 rfl rfl
theorem dksL_law_15 : cL_law.data.toList.drop 355 = dktL_law_15 := dk_seg dksL_law_14 24 rfl rfl
theorem dksL_law_16 : cL_law.data.toList.drop 379 = dktL_law_16 := dk_seg dksL_law_15 24 rfl rfl
theorem dksL_law_17 : cL_law.data.toList.drop 402 = dktL_law_17 := dk_seg dksL_law_16 23 rfl rfl
theorem dksL_law_18 : cL_law.data.toList.drop 426 = dktL_law_18 := dk_seg dksL_law_17 24 rfl rfl
theorem dksL_law_19 : cL_law.data.toList.drop 450 = dktL_law_19 := dk_seg dksL_law_18 24 rfl rfl
theorem dksL_law_20 : cL_law.data.toList.drop 474 = dktL_law_20 := dk_seg dksL_law_19 24 rfl rfl
theorem dksL_law_21 : cL_law.data.toList.drop 497 = dktL_law_21 := dk_seg dksL_law_20 23 rfl rfl
theorem dksL_law_22 : cL_law.data.toList.drop 519 = dktL_law_22 := dk_seg dksL_law_21 22 rfl rfl
theorem dksL_law_23 : cL_law.data.toList.drop 543 = dktL_law_23 := dk_seg dksL_law_22 24 rfl rfl
theorem dksL_law_24 : cL_law.data.toList.drop 566 = dktL_law_24 := dk_seg dksL_law_23 23 rfl rfl
theorem dksL_law_25 : cL_law.data.toList.drop 590 = dktL_law_25 := dk_seg dksL_law_24 24 rfl rfl
theorem dksL_law_26 : cL_law.data.toList.drop 614 = dktL_law_26 := dk_seg dksL_law_25 24 rfl rfl
theorem dksL_law_27 : cL_law.data.toList.drop 638 = dktL_law_27 := dk_seg dksL_law_26 24 rfl rfl
theorem dksL_law_28 : cL_law.data.toList.drop 662 = dktL_law_28 := dk_seg dksL_law_27 24 rfl rfl
theorem dksL_law_29 : cL_law.data.toList.drop 684 = dktL_law_29 := dk_seg dksL_law_28 22 rfl rfl
theorem dksL_law_30 : cL_law.data.toList.drop 708 = dktL_law_30 := dk_seg dksL_law_29 24 rfl rfl
theorem dL_law_0 : decode cL_law 0 = .ok (.aload_n 0, 1) := dk_42 (dk_at dksL_law_0 0 rfl rfl)
theorem dL_law_1 : decode cL_law 1 = .ok (.invokestatic 32, 3) := dk_184 0 32 (dk_at dksL_law_0 1 rfl rfl)
theorem dL_law_4 : decode cL_law 4 = .ok (.astore_n 1, 1) := dk_76 (dk_at dksL_law_0 4 rfl rfl)
theorem dL_law_5 : decode cL_law 5 = .ok (.iconst 1, 1) := dk_4 (dk_at dksL_law_0 5 rfl rfl)
theorem dL_law_6 : decode cL_law 6 = .ok (.aload_n 0, 1) := dk_42 (dk_at dksL_law_0 6 rfl rfl)
theorem dL_law_7 : decode cL_law 7 = .ok (.iconst 0, 1) := dk_3 (dk_at dksL_law_0 7 rfl rfl)
theorem dL_law_8 : decode cL_law 8 = .ok (.invokestatic 10, 3) := dk_184 0 10 (dk_at dksL_law_0 8 rfl rfl)
theorem dL_law_11 : decode cL_law 11 = .ok (.bipush 15, 2) := dk_16 15 (dk_at dksL_law_0 11 rfl rfl)
theorem dL_law_13 : decode cL_law 13 = .ok (.iand, 1) := dk_126 (dk_at dksL_law_0 13 rfl rfl)
theorem dL_law_14 : decode cL_law 14 = .ok (.iadd, 1) := dk_96 (dk_at dksL_law_0 14 rfl rfl)
theorem dL_law_15 : decode cL_law 15 = .ok (.istore_n 2, 1) := dk_61 (dk_at dksL_law_0 15 rfl rfl)
theorem dL_law_16 : decode cL_law 16 = .ok (.aload_n 1, 1) := dk_43 (dk_at dksL_law_0 16 rfl rfl)
theorem dL_law_17 : decode cL_law 17 = .ok (.iconst 0, 1) := dk_3 (dk_at dksL_law_0 17 rfl rfl)
theorem dL_law_18 : decode cL_law 18 = .ok (.iconst 1, 1) := dk_4 (dk_at dksL_law_0 18 rfl rfl)
theorem dL_law_19 : decode cL_law 19 = .ok (.invokevirtual 36, 3) := dk_182 0 36 (dk_at dksL_law_0 19 rfl rfl)
theorem dL_law_22 : decode cL_law 22 = .ok (.iconst 2, 1) := dk_5 (dk_at dksL_law_0 22 rfl rfl)
theorem dL_law_23 : decode cL_law 23 = .ok (.iload_n 2, 1) := dk_28 (dk_at dksL_law_0 23 rfl rfl)
theorem dL_law_24 : decode cL_law 24 = .ok (.imul, 1) := dk_104 (dk_at dksL_law_1 0 rfl rfl)
theorem dL_law_25 : decode cL_law 25 = .ok (.newarray .long, 2) := dk_188_11 (dk_at dksL_law_1 1 rfl rfl)
theorem dL_law_27 : decode cL_law 27 = .ok (.astore_n 3, 1) := dk_78 (dk_at dksL_law_1 3 rfl rfl)
theorem dL_law_28 : decode cL_law 28 = .ok (.iconst 0, 1) := dk_3 (dk_at dksL_law_1 4 rfl rfl)
theorem dL_law_29 : decode cL_law 29 = .ok (.istore 4, 2) := dk_54 4 (dk_at dksL_law_1 5 rfl rfl)
theorem dL_law_31 : decode cL_law 31 = .ok (.iload 4, 2) := dk_21 4 (dk_at dksL_law_1 7 rfl rfl)
theorem dL_law_33 : decode cL_law 33 = .ok (.iload_n 2, 1) := dk_28 (dk_at dksL_law_1 9 rfl rfl)
theorem dL_law_34 : decode cL_law 34 = .ok (.if_icmp .ge 148, 3) := dk_162 0 148 (dk_at dksL_law_1 10 rfl rfl)
theorem dL_law_37 : decode cL_law 37 = .ok (.lconst 0, 1) := dk_9 (dk_at dksL_law_1 13 rfl rfl)
theorem dL_law_38 : decode cL_law 38 = .ok (.lstore 5, 2) := dk_55 5 (dk_at dksL_law_1 14 rfl rfl)
theorem dL_law_40 : decode cL_law 40 = .ok (.aload_n 0, 1) := dk_42 (dk_at dksL_law_1 16 rfl rfl)
theorem dL_law_41 : decode cL_law 41 = .ok (.iconst 1, 1) := dk_4 (dk_at dksL_law_1 17 rfl rfl)
theorem dL_law_42 : decode cL_law 42 = .ok (.iload 4, 2) := dk_21 4 (dk_at dksL_law_1 18 rfl rfl)
theorem dL_law_44 : decode cL_law 44 = .ok (.iadd, 1) := dk_96 (dk_at dksL_law_1 20 rfl rfl)
theorem dL_law_45 : decode cL_law 45 = .ok (.invokestatic 10, 3) := dk_184 0 10 (dk_at dksL_law_1 21 rfl rfl)
theorem dL_law_48 : decode cL_law 48 = .ok (.i2l, 1) := dk_133 (dk_at dksL_law_2 0 rfl rfl)
theorem dL_law_49 : decode cL_law 49 = .ok (.ldc2_w 40, 3) := dk_20 0 40 (dk_at dksL_law_2 1 rfl rfl)
theorem dL_law_52 : decode cL_law 52 = .ok (.land, 1) := dk_127 (dk_at dksL_law_2 4 rfl rfl)
theorem dL_law_53 : decode cL_law 53 = .ok (.lstore 7, 2) := dk_55 7 (dk_at dksL_law_2 5 rfl rfl)
theorem dL_law_55 : decode cL_law 55 = .ok (.iconst 0, 1) := dk_3 (dk_at dksL_law_2 7 rfl rfl)
theorem dL_law_56 : decode cL_law 56 = .ok (.istore 9, 2) := dk_54 9 (dk_at dksL_law_2 8 rfl rfl)
theorem dL_law_58 : decode cL_law 58 = .ok (.iload 9, 2) := dk_21 9 (dk_at dksL_law_2 10 rfl rfl)
theorem dL_law_60 : decode cL_law 60 = .ok (.iload_n 2, 1) := dk_28 (dk_at dksL_law_2 12 rfl rfl)
theorem dL_law_61 : decode cL_law 61 = .ok (.if_icmp .ge 107, 3) := dk_162 0 107 (dk_at dksL_law_2 13 rfl rfl)
theorem dL_law_64 : decode cL_law 64 = .ok (.aload_n 0, 1) := dk_42 (dk_at dksL_law_2 16 rfl rfl)
theorem dL_law_65 : decode cL_law 65 = .ok (.bipush 17, 2) := dk_16 17 (dk_at dksL_law_2 17 rfl rfl)
theorem dL_law_67 : decode cL_law 67 = .ok (.iload 9, 2) := dk_21 9 (dk_at dksL_law_2 19 rfl rfl)
theorem dL_law_69 : decode cL_law 69 = .ok (.iadd, 1) := dk_96 (dk_at dksL_law_2 21 rfl rfl)
theorem dL_law_70 : decode cL_law 70 = .ok (.invokestatic 10, 3) := dk_184 0 10 (dk_at dksL_law_3 0 rfl rfl)
theorem dL_law_73 : decode cL_law 73 = .ok (.i2l, 1) := dk_133 (dk_at dksL_law_3 3 rfl rfl)
theorem dL_law_74 : decode cL_law 74 = .ok (.ldc2_w 40, 3) := dk_20 0 40 (dk_at dksL_law_3 4 rfl rfl)
theorem dL_law_77 : decode cL_law 77 = .ok (.land, 1) := dk_127 (dk_at dksL_law_3 7 rfl rfl)
theorem dL_law_78 : decode cL_law 78 = .ok (.lstore 10, 2) := dk_55 10 (dk_at dksL_law_3 8 rfl rfl)
theorem dL_law_80 : decode cL_law 80 = .ok (.lload 7, 2) := dk_22 7 (dk_at dksL_law_3 10 rfl rfl)
theorem dL_law_82 : decode cL_law 82 = .ok (.lload 10, 2) := dk_22 10 (dk_at dksL_law_3 12 rfl rfl)
theorem dL_law_84 : decode cL_law 84 = .ok (.ldc2_w 42, 3) := dk_20 0 42 (dk_at dksL_law_3 14 rfl rfl)
theorem dL_law_87 : decode cL_law 87 = .ok (.land, 1) := dk_127 (dk_at dksL_law_3 17 rfl rfl)
theorem dL_law_88 : decode cL_law 88 = .ok (.lmul, 1) := dk_105 (dk_at dksL_law_3 18 rfl rfl)
theorem dL_law_89 : decode cL_law 89 = .ok (.lstore 12, 2) := dk_55 12 (dk_at dksL_law_3 19 rfl rfl)
theorem dL_law_91 : decode cL_law 91 = .ok (.lload 7, 2) := dk_22 7 (dk_at dksL_law_3 21 rfl rfl)
theorem dL_law_93 : decode cL_law 93 = .ok (.lload 10, 2) := dk_22 10 (dk_at dksL_law_4 0 rfl rfl)
theorem dL_law_95 : decode cL_law 95 = .ok (.bipush 16, 2) := dk_16 16 (dk_at dksL_law_4 2 rfl rfl)
theorem dL_law_97 : decode cL_law 97 = .ok (.lushr, 1) := dk_125 (dk_at dksL_law_4 4 rfl rfl)
theorem dL_law_98 : decode cL_law 98 = .ok (.lmul, 1) := dk_105 (dk_at dksL_law_4 5 rfl rfl)
theorem dL_law_99 : decode cL_law 99 = .ok (.lstore 14, 2) := dk_55 14 (dk_at dksL_law_4 6 rfl rfl)
theorem dL_law_101 : decode cL_law 101 = .ok (.aload_n 3, 1) := dk_45 (dk_at dksL_law_4 8 rfl rfl)
theorem dL_law_102 : decode cL_law 102 = .ok (.iload 4, 2) := dk_21 4 (dk_at dksL_law_4 9 rfl rfl)
theorem dL_law_104 : decode cL_law 104 = .ok (.iload 9, 2) := dk_21 9 (dk_at dksL_law_4 11 rfl rfl)
theorem dL_law_106 : decode cL_law 106 = .ok (.iadd, 1) := dk_96 (dk_at dksL_law_4 13 rfl rfl)
theorem dL_law_107 : decode cL_law 107 = .ok (.laload, 1) := dk_47 (dk_at dksL_law_4 14 rfl rfl)
theorem dL_law_108 : decode cL_law 108 = .ok (.lload 5, 2) := dk_22 5 (dk_at dksL_law_4 15 rfl rfl)
theorem dL_law_110 : decode cL_law 110 = .ok (.ladd, 1) := dk_97 (dk_at dksL_law_4 17 rfl rfl)
theorem dL_law_111 : decode cL_law 111 = .ok (.lload 12, 2) := dk_22 12 (dk_at dksL_law_4 18 rfl rfl)
theorem dL_law_113 : decode cL_law 113 = .ok (.ldc2_w 40, 3) := dk_20 0 40 (dk_at dksL_law_4 20 rfl rfl)
theorem dL_law_116 : decode cL_law 116 = .ok (.land, 1) := dk_127 (dk_at dksL_law_4 23 rfl rfl)
theorem dL_law_117 : decode cL_law 117 = .ok (.ladd, 1) := dk_97 (dk_at dksL_law_5 0 rfl rfl)
theorem dL_law_118 : decode cL_law 118 = .ok (.lload 14, 2) := dk_22 14 (dk_at dksL_law_5 1 rfl rfl)
theorem dL_law_120 : decode cL_law 120 = .ok (.ldc2_w 42, 3) := dk_20 0 42 (dk_at dksL_law_5 3 rfl rfl)
theorem dL_law_123 : decode cL_law 123 = .ok (.land, 1) := dk_127 (dk_at dksL_law_5 6 rfl rfl)
theorem dL_law_124 : decode cL_law 124 = .ok (.bipush 16, 2) := dk_16 16 (dk_at dksL_law_5 7 rfl rfl)
theorem dL_law_126 : decode cL_law 126 = .ok (.lshl, 1) := dk_121 (dk_at dksL_law_5 9 rfl rfl)
theorem dL_law_127 : decode cL_law 127 = .ok (.ladd, 1) := dk_97 (dk_at dksL_law_5 10 rfl rfl)
theorem dL_law_128 : decode cL_law 128 = .ok (.lstore 16, 2) := dk_55 16 (dk_at dksL_law_5 11 rfl rfl)
theorem dL_law_130 : decode cL_law 130 = .ok (.lload 16, 2) := dk_22 16 (dk_at dksL_law_5 13 rfl rfl)
theorem dL_law_132 : decode cL_law 132 = .ok (.bipush 32, 2) := dk_16 32 (dk_at dksL_law_5 15 rfl rfl)
theorem dL_law_134 : decode cL_law 134 = .ok (.lushr, 1) := dk_125 (dk_at dksL_law_5 17 rfl rfl)
theorem dL_law_135 : decode cL_law 135 = .ok (.lload 12, 2) := dk_22 12 (dk_at dksL_law_5 18 rfl rfl)
theorem dL_law_137 : decode cL_law 137 = .ok (.bipush 32, 2) := dk_16 32 (dk_at dksL_law_5 20 rfl rfl)
theorem dL_law_139 : decode cL_law 139 = .ok (.lushr, 1) := dk_125 (dk_at dksL_law_5 22 rfl rfl)
theorem dL_law_140 : decode cL_law 140 = .ok (.ladd, 1) := dk_97 (dk_at dksL_law_5 23 rfl rfl)
theorem dL_law_141 : decode cL_law 141 = .ok (.lload 14, 2) := dk_22 14 (dk_at dksL_law_6 0 rfl rfl)
theorem dL_law_143 : decode cL_law 143 = .ok (.bipush 16, 2) := dk_16 16 (dk_at dksL_law_6 2 rfl rfl)
theorem dL_law_145 : decode cL_law 145 = .ok (.lushr, 1) := dk_125 (dk_at dksL_law_6 4 rfl rfl)
theorem dL_law_146 : decode cL_law 146 = .ok (.ladd, 1) := dk_97 (dk_at dksL_law_6 5 rfl rfl)
theorem dL_law_147 : decode cL_law 147 = .ok (.lstore 5, 2) := dk_55 5 (dk_at dksL_law_6 6 rfl rfl)
theorem dL_law_149 : decode cL_law 149 = .ok (.aload_n 3, 1) := dk_45 (dk_at dksL_law_6 8 rfl rfl)
theorem dL_law_150 : decode cL_law 150 = .ok (.iload 4, 2) := dk_21 4 (dk_at dksL_law_6 9 rfl rfl)
theorem dL_law_152 : decode cL_law 152 = .ok (.iload 9, 2) := dk_21 9 (dk_at dksL_law_6 11 rfl rfl)
theorem dL_law_154 : decode cL_law 154 = .ok (.iadd, 1) := dk_96 (dk_at dksL_law_6 13 rfl rfl)
theorem dL_law_155 : decode cL_law 155 = .ok (.lload 16, 2) := dk_22 16 (dk_at dksL_law_6 14 rfl rfl)
theorem dL_law_157 : decode cL_law 157 = .ok (.ldc2_w 40, 3) := dk_20 0 40 (dk_at dksL_law_6 16 rfl rfl)
theorem dL_law_160 : decode cL_law 160 = .ok (.land, 1) := dk_127 (dk_at dksL_law_6 19 rfl rfl)
theorem dL_law_161 : decode cL_law 161 = .ok (.lastore, 1) := dk_80 (dk_at dksL_law_6 20 rfl rfl)
theorem dL_law_162 : decode cL_law 162 = .ok (.iinc 9 1, 3) := dk_132 9 1 (dk_at dksL_law_6 21 rfl rfl)
theorem dL_law_165 : decode cL_law 165 = .ok (.goto (-107), 3) := dk_167 255 149 (dk_at dksL_law_7 0 rfl rfl)
theorem dL_law_168 : decode cL_law 168 = .ok (.aload_n 3, 1) := dk_45 (dk_at dksL_law_7 3 rfl rfl)
theorem dL_law_169 : decode cL_law 169 = .ok (.iload 4, 2) := dk_21 4 (dk_at dksL_law_7 4 rfl rfl)
theorem dL_law_171 : decode cL_law 171 = .ok (.iload_n 2, 1) := dk_28 (dk_at dksL_law_7 6 rfl rfl)
theorem dL_law_172 : decode cL_law 172 = .ok (.iadd, 1) := dk_96 (dk_at dksL_law_7 7 rfl rfl)
theorem dL_law_173 : decode cL_law 173 = .ok (.lload 5, 2) := dk_22 5 (dk_at dksL_law_7 8 rfl rfl)
theorem dL_law_175 : decode cL_law 175 = .ok (.lastore, 1) := dk_80 (dk_at dksL_law_7 10 rfl rfl)
theorem dL_law_176 : decode cL_law 176 = .ok (.iinc 4 1, 3) := dk_132 4 1 (dk_at dksL_law_7 11 rfl rfl)
theorem dL_law_179 : decode cL_law 179 = .ok (.goto (-148), 3) := dk_167 255 108 (dk_at dksL_law_7 14 rfl rfl)
theorem dL_law_182 : decode cL_law 182 = .ok (.iconst 0, 1) := dk_3 (dk_at dksL_law_7 17 rfl rfl)
theorem dL_law_183 : decode cL_law 183 = .ok (.istore 4, 2) := dk_54 4 (dk_at dksL_law_7 18 rfl rfl)
theorem dL_law_185 : decode cL_law 185 = .ok (.iload 4, 2) := dk_21 4 (dk_at dksL_law_7 20 rfl rfl)
theorem dL_law_187 : decode cL_law 187 = .ok (.iconst 2, 1) := dk_5 (dk_at dksL_law_7 22 rfl rfl)
theorem dL_law_188 : decode cL_law 188 = .ok (.iload_n 2, 1) := dk_28 (dk_at dksL_law_7 23 rfl rfl)
theorem dL_law_189 : decode cL_law 189 = .ok (.imul, 1) := dk_104 (dk_at dksL_law_8 0 rfl rfl)
theorem dL_law_190 : decode cL_law 190 = .ok (.if_icmp .ge 25, 3) := dk_162 0 25 (dk_at dksL_law_8 1 rfl rfl)
theorem dL_law_193 : decode cL_law 193 = .ok (.aload_n 1, 1) := dk_43 (dk_at dksL_law_8 4 rfl rfl)
theorem dL_law_194 : decode cL_law 194 = .ok (.iload 4, 2) := dk_21 4 (dk_at dksL_law_8 5 rfl rfl)
theorem dL_law_196 : decode cL_law 196 = .ok (.invokevirtual 28, 3) := dk_182 0 28 (dk_at dksL_law_8 7 rfl rfl)
theorem dL_law_199 : decode cL_law 199 = .ok (.aload_n 3, 1) := dk_45 (dk_at dksL_law_8 10 rfl rfl)
theorem dL_law_200 : decode cL_law 200 = .ok (.iload 4, 2) := dk_21 4 (dk_at dksL_law_8 11 rfl rfl)
theorem dL_law_202 : decode cL_law 202 = .ok (.laload, 1) := dk_47 (dk_at dksL_law_8 13 rfl rfl)
theorem dL_law_203 : decode cL_law 203 = .ok (.l2i, 1) := dk_136 (dk_at dksL_law_8 14 rfl rfl)
theorem dL_law_204 : decode cL_law 204 = .ok (.if_icmp .eq 5, 3) := dk_159 0 5 (dk_at dksL_law_8 15 rfl rfl)
theorem dL_law_207 : decode cL_law 207 = .ok (.iconst 0, 1) := dk_3 (dk_at dksL_law_8 18 rfl rfl)
theorem dL_law_208 : decode cL_law 208 = .ok (.ireturn, 1) := dk_172 (dk_at dksL_law_8 19 rfl rfl)
theorem dL_law_209 : decode cL_law 209 = .ok (.iinc 4 1, 3) := dk_132 4 1 (dk_at dksL_law_8 20 rfl rfl)
theorem dL_law_212 : decode cL_law 212 = .ok (.goto (-27), 3) := dk_167 255 229 (dk_at dksL_law_9 0 rfl rfl)
theorem dL_law_215 : decode cL_law 215 = .ok (.lconst 0, 1) := dk_9 (dk_at dksL_law_9 3 rfl rfl)
theorem dL_law_216 : decode cL_law 216 = .ok (.lstore 4, 2) := dk_55 4 (dk_at dksL_law_9 4 rfl rfl)
theorem dL_law_218 : decode cL_law 218 = .ok (.aload_n 1, 1) := dk_43 (dk_at dksL_law_9 6 rfl rfl)
theorem dL_law_219 : decode cL_law 219 = .ok (.iconst 3, 1) := dk_6 (dk_at dksL_law_9 7 rfl rfl)
theorem dL_law_220 : decode cL_law 220 = .ok (.iconst 0, 1) := dk_3 (dk_at dksL_law_9 8 rfl rfl)
theorem dL_law_221 : decode cL_law 221 = .ok (.iconst 1, 1) := dk_4 (dk_at dksL_law_9 9 rfl rfl)
theorem dL_law_222 : decode cL_law 222 = .ok (.invokevirtual 44, 3) := dk_182 0 44 (dk_at dksL_law_9 10 rfl rfl)
theorem dL_law_225 : decode cL_law 225 = .ok (.istore 6, 2) := dk_54 6 (dk_at dksL_law_9 13 rfl rfl)
theorem dL_law_227 : decode cL_law 227 = .ok (.iconst 0, 1) := dk_3 (dk_at dksL_law_9 15 rfl rfl)
theorem dL_law_228 : decode cL_law 228 = .ok (.istore 7, 2) := dk_54 7 (dk_at dksL_law_9 16 rfl rfl)
theorem dL_law_230 : decode cL_law 230 = .ok (.iload 7, 2) := dk_21 7 (dk_at dksL_law_9 18 rfl rfl)
theorem dL_law_232 : decode cL_law 232 = .ok (.iload_n 2, 1) := dk_28 (dk_at dksL_law_9 20 rfl rfl)
theorem dL_law_233 : decode cL_law 233 = .ok (.if_icmp .ge 64, 3) := dk_162 0 64 (dk_at dksL_law_9 21 rfl rfl)
theorem dL_law_236 : decode cL_law 236 = .ok (.lload 4, 2) := dk_22 4 (dk_at dksL_law_10 0 rfl rfl)
theorem dL_law_238 : decode cL_law 238 = .ok (.aload_n 0, 1) := dk_42 (dk_at dksL_law_10 2 rfl rfl)
theorem dL_law_239 : decode cL_law 239 = .ok (.iconst 1, 1) := dk_4 (dk_at dksL_law_10 3 rfl rfl)
theorem dL_law_240 : decode cL_law 240 = .ok (.iload 7, 2) := dk_21 7 (dk_at dksL_law_10 4 rfl rfl)
theorem dL_law_242 : decode cL_law 242 = .ok (.iadd, 1) := dk_96 (dk_at dksL_law_10 6 rfl rfl)
theorem dL_law_243 : decode cL_law 243 = .ok (.invokestatic 10, 3) := dk_184 0 10 (dk_at dksL_law_10 7 rfl rfl)
theorem dL_law_246 : decode cL_law 246 = .ok (.i2l, 1) := dk_133 (dk_at dksL_law_10 10 rfl rfl)
theorem dL_law_247 : decode cL_law 247 = .ok (.ldc2_w 40, 3) := dk_20 0 40 (dk_at dksL_law_10 11 rfl rfl)
theorem dL_law_250 : decode cL_law 250 = .ok (.land, 1) := dk_127 (dk_at dksL_law_10 14 rfl rfl)
theorem dL_law_251 : decode cL_law 251 = .ok (.aload_n 0, 1) := dk_42 (dk_at dksL_law_10 15 rfl rfl)
theorem dL_law_252 : decode cL_law 252 = .ok (.bipush 17, 2) := dk_16 17 (dk_at dksL_law_10 16 rfl rfl)
theorem dL_law_254 : decode cL_law 254 = .ok (.iload 7, 2) := dk_21 7 (dk_at dksL_law_10 18 rfl rfl)
theorem dL_law_256 : decode cL_law 256 = .ok (.iadd, 1) := dk_96 (dk_at dksL_law_10 20 rfl rfl)
theorem dL_law_257 : decode cL_law 257 = .ok (.invokestatic 10, 3) := dk_184 0 10 (dk_at dksL_law_10 21 rfl rfl)
theorem dL_law_260 : decode cL_law 260 = .ok (.i2l, 1) := dk_133 (dk_at dksL_law_11 0 rfl rfl)
theorem dL_law_261 : decode cL_law 261 = .ok (.ldc2_w 40, 3) := dk_20 0 40 (dk_at dksL_law_11 1 rfl rfl)
theorem dL_law_264 : decode cL_law 264 = .ok (.land, 1) := dk_127 (dk_at dksL_law_11 4 rfl rfl)
theorem dL_law_265 : decode cL_law 265 = .ok (.ladd, 1) := dk_97 (dk_at dksL_law_11 5 rfl rfl)
theorem dL_law_266 : decode cL_law 266 = .ok (.ladd, 1) := dk_97 (dk_at dksL_law_11 6 rfl rfl)
theorem dL_law_267 : decode cL_law 267 = .ok (.lstore 4, 2) := dk_55 4 (dk_at dksL_law_11 7 rfl rfl)
theorem dL_law_269 : decode cL_law 269 = .ok (.aload_n 1, 1) := dk_43 (dk_at dksL_law_11 9 rfl rfl)
theorem dL_law_270 : decode cL_law 270 = .ok (.iconst 3, 1) := dk_6 (dk_at dksL_law_11 10 rfl rfl)
theorem dL_law_271 : decode cL_law 271 = .ok (.iload 7, 2) := dk_21 7 (dk_at dksL_law_11 11 rfl rfl)
theorem dL_law_273 : decode cL_law 273 = .ok (.invokevirtual 24, 3) := dk_182 0 24 (dk_at dksL_law_11 13 rfl rfl)
theorem dL_law_276 : decode cL_law 276 = .ok (.lload 4, 2) := dk_22 4 (dk_at dksL_law_11 16 rfl rfl)
theorem dL_law_278 : decode cL_law 278 = .ok (.l2i, 1) := dk_136 (dk_at dksL_law_11 18 rfl rfl)
theorem dL_law_279 : decode cL_law 279 = .ok (.if_icmp .eq 5, 3) := dk_159 0 5 (dk_at dksL_law_11 19 rfl rfl)
theorem dL_law_282 : decode cL_law 282 = .ok (.iconst 0, 1) := dk_3 (dk_at dksL_law_11 22 rfl rfl)
theorem dL_law_283 : decode cL_law 283 = .ok (.ireturn, 1) := dk_172 (dk_at dksL_law_11 23 rfl rfl)
theorem dL_law_284 : decode cL_law 284 = .ok (.lload 4, 2) := dk_22 4 (dk_at dksL_law_12 0 rfl rfl)
theorem dL_law_286 : decode cL_law 286 = .ok (.bipush 32, 2) := dk_16 32 (dk_at dksL_law_12 2 rfl rfl)
theorem dL_law_288 : decode cL_law 288 = .ok (.lushr, 1) := dk_125 (dk_at dksL_law_12 4 rfl rfl)
theorem dL_law_289 : decode cL_law 289 = .ok (.lstore 4, 2) := dk_55 4 (dk_at dksL_law_12 5 rfl rfl)
theorem dL_law_291 : decode cL_law 291 = .ok (.iinc 7 1, 3) := dk_132 7 1 (dk_at dksL_law_12 7 rfl rfl)
theorem dL_law_294 : decode cL_law 294 = .ok (.goto (-64), 3) := dk_167 255 192 (dk_at dksL_law_12 10 rfl rfl)
theorem dL_law_297 : decode cL_law 297 = .ok (.iload 6, 2) := dk_21 6 (dk_at dksL_law_12 13 rfl rfl)
theorem dL_law_299 : decode cL_law 299 = .ok (.lload 4, 2) := dk_22 4 (dk_at dksL_law_12 15 rfl rfl)
theorem dL_law_301 : decode cL_law 301 = .ok (.l2i, 1) := dk_136 (dk_at dksL_law_12 17 rfl rfl)
theorem dL_law_302 : decode cL_law 302 = .ok (.if_icmp .eq 5, 3) := dk_159 0 5 (dk_at dksL_law_12 18 rfl rfl)
theorem dL_law_305 : decode cL_law 305 = .ok (.iconst 0, 1) := dk_3 (dk_at dksL_law_12 21 rfl rfl)
theorem dL_law_306 : decode cL_law 306 = .ok (.ireturn, 1) := dk_172 (dk_at dksL_law_12 22 rfl rfl)
theorem dL_law_307 : decode cL_law 307 = .ok (.iconst 1, 1) := dk_4 (dk_at dksL_law_12 23 rfl rfl)
theorem dL_law_308 : decode cL_law 308 = .ok (.aload_n 0, 1) := dk_42 (dk_at dksL_law_13 0 rfl rfl)
theorem dL_law_309 : decode cL_law 309 = .ok (.iconst 0, 1) := dk_3 (dk_at dksL_law_13 1 rfl rfl)
theorem dL_law_310 : decode cL_law 310 = .ok (.invokestatic 10, 3) := dk_184 0 10 (dk_at dksL_law_13 2 rfl rfl)
theorem dL_law_313 : decode cL_law 313 = .ok (.bipush 15, 2) := dk_16 15 (dk_at dksL_law_13 5 rfl rfl)
theorem dL_law_315 : decode cL_law 315 = .ok (.iand, 1) := dk_126 (dk_at dksL_law_13 7 rfl rfl)
theorem dL_law_316 : decode cL_law 316 = .ok (.iadd, 1) := dk_96 (dk_at dksL_law_13 8 rfl rfl)
theorem dL_law_317 : decode cL_law 317 = .ok (.istore_n 1, 1) := dk_60 (dk_at dksL_law_13 9 rfl rfl)
theorem dL_law_318 : decode cL_law 318 = .ok (.aload_n 0, 1) := dk_42 (dk_at dksL_law_13 10 rfl rfl)
theorem dL_law_319 : decode cL_law 319 = .ok (.invokestatic 32, 3) := dk_184 0 32 (dk_at dksL_law_13 11 rfl rfl)
theorem dL_law_322 : decode cL_law 322 = .ok (.astore_n 2, 1) := dk_77 (dk_at dksL_law_13 14 rfl rfl)
theorem dL_law_323 : decode cL_law 323 = .ok (.aload_n 0, 1) := dk_42 (dk_at dksL_law_13 15 rfl rfl)
theorem dL_law_324 : decode cL_law 324 = .ok (.invokestatic 32, 3) := dk_184 0 32 (dk_at dksL_law_13 16 rfl rfl)
theorem dL_law_327 : decode cL_law 327 = .ok (.astore_n 3, 1) := dk_78 (dk_at dksL_law_13 19 rfl rfl)
theorem dL_law_328 : decode cL_law 328 = .ok (.iconst 0, 1) := dk_3 (dk_at dksL_law_13 20 rfl rfl)
theorem dL_law_329 : decode cL_law 329 = .ok (.istore 4, 2) := dk_54 4 (dk_at dksL_law_13 21 rfl rfl)
theorem dL_law_331 : decode cL_law 331 = .ok (.iload 4, 2) := dk_21 4 (dk_at dksL_law_14 0 rfl rfl)
theorem dL_law_333 : decode cL_law 333 = .ok (.iconst 3, 1) := dk_6 (dk_at dksL_law_14 2 rfl rfl)
theorem dL_law_334 : decode cL_law 334 = .ok (.if_icmp .ge 51, 3) := dk_162 0 51 (dk_at dksL_law_14 3 rfl rfl)
theorem dL_law_337 : decode cL_law 337 = .ok (.iconst 0, 1) := dk_3 (dk_at dksL_law_14 6 rfl rfl)
theorem dL_law_338 : decode cL_law 338 = .ok (.istore 5, 2) := dk_54 5 (dk_at dksL_law_14 7 rfl rfl)
theorem dL_law_340 : decode cL_law 340 = .ok (.iload 5, 2) := dk_21 5 (dk_at dksL_law_14 9 rfl rfl)
theorem dL_law_342 : decode cL_law 342 = .ok (.iload_n 1, 1) := dk_27 (dk_at dksL_law_14 11 rfl rfl)
theorem dL_law_343 : decode cL_law 343 = .ok (.if_icmp .ge 36, 3) := dk_162 0 36 (dk_at dksL_law_14 12 rfl rfl)
theorem dL_law_346 : decode cL_law 346 = .ok (.aload_n 2, 1) := dk_44 (dk_at dksL_law_14 15 rfl rfl)
theorem dL_law_347 : decode cL_law 347 = .ok (.iload 4, 2) := dk_21 4 (dk_at dksL_law_14 16 rfl rfl)
theorem dL_law_349 : decode cL_law 349 = .ok (.iload 5, 2) := dk_21 5 (dk_at dksL_law_14 18 rfl rfl)
theorem dL_law_351 : decode cL_law 351 = .ok (.invokevirtual 24, 3) := dk_182 0 24 (dk_at dksL_law_14 20 rfl rfl)
theorem dL_law_354 : decode cL_law 354 = .ok (.aload_n 0, 1) := dk_42 (dk_at dksL_law_14 23 rfl rfl)
theorem dL_law_355 : decode cL_law 355 = .ok (.iconst 1, 1) := dk_4 (dk_at dksL_law_15 0 rfl rfl)
theorem dL_law_356 : decode cL_law 356 = .ok (.bipush 16, 2) := dk_16 16 (dk_at dksL_law_15 1 rfl rfl)
theorem dL_law_358 : decode cL_law 358 = .ok (.iload 4, 2) := dk_21 4 (dk_at dksL_law_15 3 rfl rfl)
theorem dL_law_360 : decode cL_law 360 = .ok (.imul, 1) := dk_104 (dk_at dksL_law_15 5 rfl rfl)
theorem dL_law_361 : decode cL_law 361 = .ok (.iadd, 1) := dk_96 (dk_at dksL_law_15 6 rfl rfl)
theorem dL_law_362 : decode cL_law 362 = .ok (.iload 5, 2) := dk_21 5 (dk_at dksL_law_15 7 rfl rfl)
theorem dL_law_364 : decode cL_law 364 = .ok (.iadd, 1) := dk_96 (dk_at dksL_law_15 9 rfl rfl)
theorem dL_law_365 : decode cL_law 365 = .ok (.invokestatic 10, 3) := dk_184 0 10 (dk_at dksL_law_15 10 rfl rfl)
theorem dL_law_368 : decode cL_law 368 = .ok (.if_icmp .eq 5, 3) := dk_159 0 5 (dk_at dksL_law_15 13 rfl rfl)
theorem dL_law_371 : decode cL_law 371 = .ok (.iconst 0, 1) := dk_3 (dk_at dksL_law_15 16 rfl rfl)
theorem dL_law_372 : decode cL_law 372 = .ok (.ireturn, 1) := dk_172 (dk_at dksL_law_15 17 rfl rfl)
theorem dL_law_373 : decode cL_law 373 = .ok (.iinc 5 1, 3) := dk_132 5 1 (dk_at dksL_law_15 18 rfl rfl)
theorem dL_law_376 : decode cL_law 376 = .ok (.goto (-36), 3) := dk_167 255 220 (dk_at dksL_law_15 21 rfl rfl)
theorem dL_law_379 : decode cL_law 379 = .ok (.iinc 4 1, 3) := dk_132 4 1 (dk_at dksL_law_16 0 rfl rfl)
theorem dL_law_382 : decode cL_law 382 = .ok (.goto (-51), 3) := dk_167 255 205 (dk_at dksL_law_16 3 rfl rfl)
theorem dL_law_385 : decode cL_law 385 = .ok (.aload_n 2, 1) := dk_44 (dk_at dksL_law_16 6 rfl rfl)
theorem dL_law_386 : decode cL_law 386 = .ok (.iconst 3, 1) := dk_6 (dk_at dksL_law_16 7 rfl rfl)
theorem dL_law_387 : decode cL_law 387 = .ok (.iconst 0, 1) := dk_3 (dk_at dksL_law_16 8 rfl rfl)
theorem dL_law_388 : decode cL_law 388 = .ok (.iconst 1, 1) := dk_4 (dk_at dksL_law_16 9 rfl rfl)
theorem dL_law_389 : decode cL_law 389 = .ok (.invokevirtual 44, 3) := dk_182 0 44 (dk_at dksL_law_16 10 rfl rfl)
theorem dL_law_392 : decode cL_law 392 = .ok (.istore 4, 2) := dk_54 4 (dk_at dksL_law_16 13 rfl rfl)
theorem dL_law_394 : decode cL_law 394 = .ok (.aload_n 2, 1) := dk_44 (dk_at dksL_law_16 15 rfl rfl)
theorem dL_law_395 : decode cL_law 395 = .ok (.iconst 3, 1) := dk_6 (dk_at dksL_law_16 16 rfl rfl)
theorem dL_law_396 : decode cL_law 396 = .ok (.iconst 0, 1) := dk_3 (dk_at dksL_law_16 17 rfl rfl)
theorem dL_law_397 : decode cL_law 397 = .ok (.invokevirtual 48, 3) := dk_182 0 48 (dk_at dksL_law_16 18 rfl rfl)
theorem dL_law_400 : decode cL_law 400 = .ok (.iload 4, 2) := dk_21 4 (dk_at dksL_law_16 21 rfl rfl)
theorem dL_law_402 : decode cL_law 402 = .ok (.ifCond .ne 7, 3) := dk_154 0 7 (dk_at dksL_law_17 0 rfl rfl)
theorem dL_law_405 : decode cL_law 405 = .ok (.iconst 1, 1) := dk_4 (dk_at dksL_law_17 3 rfl rfl)
theorem dL_law_406 : decode cL_law 406 = .ok (.goto 4, 3) := dk_167 0 4 (dk_at dksL_law_17 4 rfl rfl)
theorem dL_law_409 : decode cL_law 409 = .ok (.iconst 0, 1) := dk_3 (dk_at dksL_law_17 7 rfl rfl)
theorem dL_law_410 : decode cL_law 410 = .ok (.if_icmp .ne 14, 3) := dk_160 0 14 (dk_at dksL_law_17 8 rfl rfl)
theorem dL_law_413 : decode cL_law 413 = .ok (.iload 4, 2) := dk_21 4 (dk_at dksL_law_17 11 rfl rfl)
theorem dL_law_415 : decode cL_law 415 = .ok (.ifCond .eq 11, 3) := dk_153 0 11 (dk_at dksL_law_17 13 rfl rfl)
theorem dL_law_418 : decode cL_law 418 = .ok (.iload 4, 2) := dk_21 4 (dk_at dksL_law_17 16 rfl rfl)
theorem dL_law_420 : decode cL_law 420 = .ok (.iconst 1, 1) := dk_4 (dk_at dksL_law_17 18 rfl rfl)
theorem dL_law_421 : decode cL_law 421 = .ok (.if_icmp .eq 5, 3) := dk_159 0 5 (dk_at dksL_law_17 19 rfl rfl)
theorem dL_law_424 : decode cL_law 424 = .ok (.iconst 0, 1) := dk_3 (dk_at dksL_law_17 22 rfl rfl)
theorem dL_law_425 : decode cL_law 425 = .ok (.ireturn, 1) := dk_172 (dk_at dksL_law_17 23 rfl rfl)
theorem dL_law_426 : decode cL_law 426 = .ok (.aload_n 2, 1) := dk_44 (dk_at dksL_law_18 0 rfl rfl)
theorem dL_law_427 : decode cL_law 427 = .ok (.iconst 3, 1) := dk_6 (dk_at dksL_law_18 1 rfl rfl)
theorem dL_law_428 : decode cL_law 428 = .ok (.iconst 3, 1) := dk_6 (dk_at dksL_law_18 2 rfl rfl)
theorem dL_law_429 : decode cL_law 429 = .ok (.iconst 1, 1) := dk_4 (dk_at dksL_law_18 3 rfl rfl)
theorem dL_law_430 : decode cL_law 430 = .ok (.invokevirtual 52, 3) := dk_182 0 52 (dk_at dksL_law_18 4 rfl rfl)
theorem dL_law_433 : decode cL_law 433 = .ok (.iload 4, 2) := dk_21 4 (dk_at dksL_law_18 7 rfl rfl)
theorem dL_law_435 : decode cL_law 435 = .ok (.ineg, 1) := dk_116 (dk_at dksL_law_18 9 rfl rfl)
theorem dL_law_436 : decode cL_law 436 = .ok (.if_icmp .ne 14, 3) := dk_160 0 14 (dk_at dksL_law_18 10 rfl rfl)
theorem dL_law_439 : decode cL_law 439 = .ok (.aload_n 2, 1) := dk_44 (dk_at dksL_law_18 13 rfl rfl)
theorem dL_law_440 : decode cL_law 440 = .ok (.iconst 3, 1) := dk_6 (dk_at dksL_law_18 14 rfl rfl)
theorem dL_law_441 : decode cL_law 441 = .ok (.aload_n 2, 1) := dk_44 (dk_at dksL_law_18 15 rfl rfl)
theorem dL_law_442 : decode cL_law 442 = .ok (.iconst 0, 1) := dk_3 (dk_at dksL_law_18 16 rfl rfl)
theorem dL_law_443 : decode cL_law 443 = .ok (.iload_n 1, 1) := dk_27 (dk_at dksL_law_18 17 rfl rfl)
theorem dL_law_444 : decode cL_law 444 = .ok (.invokestatic 55, 3) := dk_184 0 55 (dk_at dksL_law_18 18 rfl rfl)
theorem dL_law_447 : decode cL_law 447 = .ok (.ifCond .ne 5, 3) := dk_154 0 5 (dk_at dksL_law_18 21 rfl rfl)
theorem dL_law_450 : decode cL_law 450 = .ok (.iconst 0, 1) := dk_3 (dk_at dksL_law_19 0 rfl rfl)
theorem dL_law_451 : decode cL_law 451 = .ok (.ireturn, 1) := dk_172 (dk_at dksL_law_19 1 rfl rfl)
theorem dL_law_452 : decode cL_law 452 = .ok (.aload_n 2, 1) := dk_44 (dk_at dksL_law_19 2 rfl rfl)
theorem dL_law_453 : decode cL_law 453 = .ok (.iconst 0, 1) := dk_3 (dk_at dksL_law_19 3 rfl rfl)
theorem dL_law_454 : decode cL_law 454 = .ok (.iconst 1, 1) := dk_4 (dk_at dksL_law_19 4 rfl rfl)
theorem dL_law_455 : decode cL_law 455 = .ok (.invokevirtual 36, 3) := dk_182 0 36 (dk_at dksL_law_19 5 rfl rfl)
theorem dL_law_458 : decode cL_law 458 = .ok (.aload_n 3, 1) := dk_45 (dk_at dksL_law_19 8 rfl rfl)
theorem dL_law_459 : decode cL_law 459 = .ok (.iconst 1, 1) := dk_4 (dk_at dksL_law_19 9 rfl rfl)
theorem dL_law_460 : decode cL_law 460 = .ok (.iconst 0, 1) := dk_3 (dk_at dksL_law_19 10 rfl rfl)
theorem dL_law_461 : decode cL_law 461 = .ok (.invokevirtual 36, 3) := dk_182 0 36 (dk_at dksL_law_19 11 rfl rfl)
theorem dL_law_464 : decode cL_law 464 = .ok (.aload_n 2, 1) := dk_44 (dk_at dksL_law_19 14 rfl rfl)
theorem dL_law_465 : decode cL_law 465 = .ok (.aload_n 3, 1) := dk_45 (dk_at dksL_law_19 15 rfl rfl)
theorem dL_law_466 : decode cL_law 466 = .ok (.iload_n 1, 1) := dk_27 (dk_at dksL_law_19 16 rfl rfl)
theorem dL_law_467 : decode cL_law 467 = .ok (.invokestatic 59, 3) := dk_184 0 59 (dk_at dksL_law_19 17 rfl rfl)
theorem dL_law_470 : decode cL_law 470 = .ok (.ifCond .ne 5, 3) := dk_154 0 5 (dk_at dksL_law_19 20 rfl rfl)
theorem dL_law_473 : decode cL_law 473 = .ok (.iconst 0, 1) := dk_3 (dk_at dksL_law_19 23 rfl rfl)
theorem dL_law_474 : decode cL_law 474 = .ok (.ireturn, 1) := dk_172 (dk_at dksL_law_20 0 rfl rfl)
theorem dL_law_475 : decode cL_law 475 = .ok (.aload_n 2, 1) := dk_44 (dk_at dksL_law_20 1 rfl rfl)
theorem dL_law_476 : decode cL_law 476 = .ok (.iconst 0, 1) := dk_3 (dk_at dksL_law_20 2 rfl rfl)
theorem dL_law_477 : decode cL_law 477 = .ok (.iconst 2, 1) := dk_5 (dk_at dksL_law_20 3 rfl rfl)
theorem dL_law_478 : decode cL_law 478 = .ok (.invokevirtual 63, 3) := dk_182 0 63 (dk_at dksL_law_20 4 rfl rfl)
theorem dL_law_481 : decode cL_law 481 = .ok (.istore 5, 2) := dk_54 5 (dk_at dksL_law_20 7 rfl rfl)
theorem dL_law_483 : decode cL_law 483 = .ok (.aload_n 3, 1) := dk_45 (dk_at dksL_law_20 9 rfl rfl)
theorem dL_law_484 : decode cL_law 484 = .ok (.iconst 2, 1) := dk_5 (dk_at dksL_law_20 10 rfl rfl)
theorem dL_law_485 : decode cL_law 485 = .ok (.iconst 0, 1) := dk_3 (dk_at dksL_law_20 11 rfl rfl)
theorem dL_law_486 : decode cL_law 486 = .ok (.invokevirtual 36, 3) := dk_182 0 36 (dk_at dksL_law_20 12 rfl rfl)
theorem dL_law_489 : decode cL_law 489 = .ok (.aload_n 3, 1) := dk_45 (dk_at dksL_law_20 15 rfl rfl)
theorem dL_law_490 : decode cL_law 490 = .ok (.iconst 1, 1) := dk_4 (dk_at dksL_law_20 16 rfl rfl)
theorem dL_law_491 : decode cL_law 491 = .ok (.iconst 0, 1) := dk_3 (dk_at dksL_law_20 17 rfl rfl)
theorem dL_law_492 : decode cL_law 492 = .ok (.invokevirtual 63, 3) := dk_182 0 63 (dk_at dksL_law_20 18 rfl rfl)
theorem dL_law_495 : decode cL_law 495 = .ok (.iload 5, 2) := dk_21 5 (dk_at dksL_law_20 21 rfl rfl)
theorem dL_law_497 : decode cL_law 497 = .ok (.if_icmp .ne 12, 3) := dk_160 0 12 (dk_at dksL_law_21 0 rfl rfl)
theorem dL_law_500 : decode cL_law 500 = .ok (.aload_n 2, 1) := dk_44 (dk_at dksL_law_21 3 rfl rfl)
theorem dL_law_501 : decode cL_law 501 = .ok (.aload_n 3, 1) := dk_45 (dk_at dksL_law_21 4 rfl rfl)
theorem dL_law_502 : decode cL_law 502 = .ok (.iload_n 1, 1) := dk_27 (dk_at dksL_law_21 5 rfl rfl)
theorem dL_law_503 : decode cL_law 503 = .ok (.invokestatic 59, 3) := dk_184 0 59 (dk_at dksL_law_21 6 rfl rfl)
theorem dL_law_506 : decode cL_law 506 = .ok (.ifCond .ne 5, 3) := dk_154 0 5 (dk_at dksL_law_21 9 rfl rfl)
theorem dL_law_509 : decode cL_law 509 = .ok (.iconst 0, 1) := dk_3 (dk_at dksL_law_21 12 rfl rfl)
theorem dL_law_510 : decode cL_law 510 = .ok (.ireturn, 1) := dk_172 (dk_at dksL_law_21 13 rfl rfl)
theorem dL_law_511 : decode cL_law 511 = .ok (.aload_n 2, 1) := dk_44 (dk_at dksL_law_21 14 rfl rfl)
theorem dL_law_512 : decode cL_law 512 = .ok (.iconst 0, 1) := dk_3 (dk_at dksL_law_21 15 rfl rfl)
theorem dL_law_513 : decode cL_law 513 = .ok (.invokevirtual 66, 3) := dk_182 0 66 (dk_at dksL_law_21 16 rfl rfl)
theorem dL_law_516 : decode cL_law 516 = .ok (.aload_n 3, 1) := dk_45 (dk_at dksL_law_21 19 rfl rfl)
theorem dL_law_517 : decode cL_law 517 = .ok (.iconst 0, 1) := dk_3 (dk_at dksL_law_21 20 rfl rfl)
theorem dL_law_518 : decode cL_law 518 = .ok (.iconst 0, 1) := dk_3 (dk_at dksL_law_21 21 rfl rfl)
theorem dL_law_519 : decode cL_law 519 = .ok (.invokevirtual 36, 3) := dk_182 0 36 (dk_at dksL_law_22 0 rfl rfl)
theorem dL_law_522 : decode cL_law 522 = .ok (.aload_n 2, 1) := dk_44 (dk_at dksL_law_22 3 rfl rfl)
theorem dL_law_523 : decode cL_law 523 = .ok (.aload_n 3, 1) := dk_45 (dk_at dksL_law_22 4 rfl rfl)
theorem dL_law_524 : decode cL_law 524 = .ok (.iload_n 1, 1) := dk_27 (dk_at dksL_law_22 5 rfl rfl)
theorem dL_law_525 : decode cL_law 525 = .ok (.invokestatic 59, 3) := dk_184 0 59 (dk_at dksL_law_22 6 rfl rfl)
theorem dL_law_528 : decode cL_law 528 = .ok (.ifCond .ne 5, 3) := dk_154 0 5 (dk_at dksL_law_22 9 rfl rfl)
theorem dL_law_531 : decode cL_law 531 = .ok (.iconst 0, 1) := dk_3 (dk_at dksL_law_22 12 rfl rfl)
theorem dL_law_532 : decode cL_law 532 = .ok (.ireturn, 1) := dk_172 (dk_at dksL_law_22 13 rfl rfl)
theorem dL_law_533 : decode cL_law 533 = .ok (.aload_n 0, 1) := dk_42 (dk_at dksL_law_22 14 rfl rfl)
theorem dL_law_534 : decode cL_law 534 = .ok (.iconst 1, 1) := dk_4 (dk_at dksL_law_22 15 rfl rfl)
theorem dL_law_535 : decode cL_law 535 = .ok (.invokestatic 10, 3) := dk_184 0 10 (dk_at dksL_law_22 16 rfl rfl)
theorem dL_law_538 : decode cL_law 538 = .ok (.istore 6, 2) := dk_54 6 (dk_at dksL_law_22 19 rfl rfl)
theorem dL_law_540 : decode cL_law 540 = .ok (.iconst 1, 1) := dk_4 (dk_at dksL_law_22 21 rfl rfl)
theorem dL_law_541 : decode cL_law 541 = .ok (.iload 6, 2) := dk_21 6 (dk_at dksL_law_22 22 rfl rfl)
theorem dL_law_543 : decode cL_law 543 = .ok (.ldc 69, 2) := dk_18 69 (dk_at dksL_law_23 0 rfl rfl)
theorem dL_law_545 : decode cL_law 545 = .ok (.iand, 1) := dk_126 (dk_at dksL_law_23 2 rfl rfl)
theorem dL_law_546 : decode cL_law 546 = .ok (.bipush 31, 2) := dk_16 31 (dk_at dksL_law_23 3 rfl rfl)
theorem dL_law_548 : decode cL_law 548 = .ok (.irem, 1) := dk_112 (dk_at dksL_law_23 5 rfl rfl)
theorem dL_law_549 : decode cL_law 549 = .ok (.iadd, 1) := dk_96 (dk_at dksL_law_23 6 rfl rfl)
theorem dL_law_550 : decode cL_law 550 = .ok (.istore 7, 2) := dk_54 7 (dk_at dksL_law_23 7 rfl rfl)
theorem dL_law_552 : decode cL_law 552 = .ok (.aload_n 2, 1) := dk_44 (dk_at dksL_law_23 9 rfl rfl)
theorem dL_law_553 : decode cL_law 553 = .ok (.iconst 0, 1) := dk_3 (dk_at dksL_law_23 10 rfl rfl)
theorem dL_law_554 : decode cL_law 554 = .ok (.iload_n 1, 1) := dk_27 (dk_at dksL_law_23 11 rfl rfl)
theorem dL_law_555 : decode cL_law 555 = .ok (.iconst 1, 1) := dk_4 (dk_at dksL_law_23 12 rfl rfl)
theorem dL_law_556 : decode cL_law 556 = .ok (.isub, 1) := dk_100 (dk_at dksL_law_23 13 rfl rfl)
theorem dL_law_557 : decode cL_law 557 = .ok (.invokevirtual 24, 3) := dk_182 0 24 (dk_at dksL_law_23 14 rfl rfl)
theorem dL_law_560 : decode cL_law 560 = .ok (.bipush 32, 2) := dk_16 32 (dk_at dksL_law_23 17 rfl rfl)
theorem dL_law_562 : decode cL_law 562 = .ok (.iload 7, 2) := dk_21 7 (dk_at dksL_law_23 19 rfl rfl)
theorem dL_law_564 : decode cL_law 564 = .ok (.isub, 1) := dk_100 (dk_at dksL_law_23 21 rfl rfl)
theorem dL_law_565 : decode cL_law 565 = .ok (.iushr, 1) := dk_124 (dk_at dksL_law_23 22 rfl rfl)
theorem dL_law_566 : decode cL_law 566 = .ok (.istore 8, 2) := dk_54 8 (dk_at dksL_law_24 0 rfl rfl)
theorem dL_law_568 : decode cL_law 568 = .ok (.aload_n 2, 1) := dk_44 (dk_at dksL_law_24 2 rfl rfl)
theorem dL_law_569 : decode cL_law 569 = .ok (.iconst 0, 1) := dk_3 (dk_at dksL_law_24 3 rfl rfl)
theorem dL_law_570 : decode cL_law 570 = .ok (.iload 6, 2) := dk_21 6 (dk_at dksL_law_24 4 rfl rfl)
theorem dL_law_572 : decode cL_law 572 = .ok (.invokevirtual 70, 3) := dk_182 0 70 (dk_at dksL_law_24 6 rfl rfl)
theorem dL_law_575 : decode cL_law 575 = .ok (.iload 8, 2) := dk_21 8 (dk_at dksL_law_24 9 rfl rfl)
theorem dL_law_577 : decode cL_law 577 = .ok (.if_icmp .ne 13, 3) := dk_160 0 13 (dk_at dksL_law_24 11 rfl rfl)
theorem dL_law_580 : decode cL_law 580 = .ok (.aload_n 2, 1) := dk_44 (dk_at dksL_law_24 14 rfl rfl)
theorem dL_law_581 : decode cL_law 581 = .ok (.iconst 0, 1) := dk_3 (dk_at dksL_law_24 15 rfl rfl)
theorem dL_law_582 : decode cL_law 582 = .ok (.iload 6, 2) := dk_21 6 (dk_at dksL_law_24 16 rfl rfl)
theorem dL_law_584 : decode cL_law 584 = .ok (.invokevirtual 73, 3) := dk_182 0 73 (dk_at dksL_law_24 18 rfl rfl)
theorem dL_law_587 : decode cL_law 587 = .ok (.ifCond .eq 5, 3) := dk_153 0 5 (dk_at dksL_law_24 21 rfl rfl)
theorem dL_law_590 : decode cL_law 590 = .ok (.iconst 0, 1) := dk_3 (dk_at dksL_law_25 0 rfl rfl)
theorem dL_law_591 : decode cL_law 591 = .ok (.ireturn, 1) := dk_172 (dk_at dksL_law_25 1 rfl rfl)
theorem dL_law_592 : decode cL_law 592 = .ok (.iconst 0, 1) := dk_3 (dk_at dksL_law_25 2 rfl rfl)
theorem dL_law_593 : decode cL_law 593 = .ok (.istore 9, 2) := dk_54 9 (dk_at dksL_law_25 3 rfl rfl)
theorem dL_law_595 : decode cL_law 595 = .ok (.iload 9, 2) := dk_21 9 (dk_at dksL_law_25 5 rfl rfl)
theorem dL_law_597 : decode cL_law 597 = .ok (.iload_n 1, 1) := dk_27 (dk_at dksL_law_25 7 rfl rfl)
theorem dL_law_598 : decode cL_law 598 = .ok (.iconst 1, 1) := dk_4 (dk_at dksL_law_25 8 rfl rfl)
theorem dL_law_599 : decode cL_law 599 = .ok (.isub, 1) := dk_100 (dk_at dksL_law_25 9 rfl rfl)
theorem dL_law_600 : decode cL_law 600 = .ok (.if_icmp .ge 28, 3) := dk_162 0 28 (dk_at dksL_law_25 10 rfl rfl)
theorem dL_law_603 : decode cL_law 603 = .ok (.aload_n 2, 1) := dk_44 (dk_at dksL_law_25 13 rfl rfl)
theorem dL_law_604 : decode cL_law 604 = .ok (.iconst 0, 1) := dk_3 (dk_at dksL_law_25 14 rfl rfl)
theorem dL_law_605 : decode cL_law 605 = .ok (.iload 9, 2) := dk_21 9 (dk_at dksL_law_25 15 rfl rfl)
theorem dL_law_607 : decode cL_law 607 = .ok (.invokevirtual 24, 3) := dk_182 0 24 (dk_at dksL_law_25 17 rfl rfl)
theorem dL_law_610 : decode cL_law 610 = .ok (.aload_n 3, 1) := dk_45 (dk_at dksL_law_25 20 rfl rfl)
theorem dL_law_611 : decode cL_law 611 = .ok (.iconst 0, 1) := dk_3 (dk_at dksL_law_25 21 rfl rfl)
theorem dL_law_612 : decode cL_law 612 = .ok (.iload 9, 2) := dk_21 9 (dk_at dksL_law_25 22 rfl rfl)
theorem dL_law_614 : decode cL_law 614 = .ok (.invokevirtual 24, 3) := dk_182 0 24 (dk_at dksL_law_26 0 rfl rfl)
theorem dL_law_617 : decode cL_law 617 = .ok (.if_icmp .eq 5, 3) := dk_159 0 5 (dk_at dksL_law_26 3 rfl rfl)
theorem dL_law_620 : decode cL_law 620 = .ok (.iconst 0, 1) := dk_3 (dk_at dksL_law_26 6 rfl rfl)
theorem dL_law_621 : decode cL_law 621 = .ok (.ireturn, 1) := dk_172 (dk_at dksL_law_26 7 rfl rfl)
theorem dL_law_622 : decode cL_law 622 = .ok (.iinc 9 1, 3) := dk_132 9 1 (dk_at dksL_law_26 8 rfl rfl)
theorem dL_law_625 : decode cL_law 625 = .ok (.goto (-30), 3) := dk_167 255 226 (dk_at dksL_law_26 11 rfl rfl)
theorem dL_law_628 : decode cL_law 628 = .ok (.aload_n 2, 1) := dk_44 (dk_at dksL_law_26 14 rfl rfl)
theorem dL_law_629 : decode cL_law 629 = .ok (.iconst 0, 1) := dk_3 (dk_at dksL_law_26 15 rfl rfl)
theorem dL_law_630 : decode cL_law 630 = .ok (.iload_n 1, 1) := dk_27 (dk_at dksL_law_26 16 rfl rfl)
theorem dL_law_631 : decode cL_law 631 = .ok (.iconst 1, 1) := dk_4 (dk_at dksL_law_26 17 rfl rfl)
theorem dL_law_632 : decode cL_law 632 = .ok (.isub, 1) := dk_100 (dk_at dksL_law_26 18 rfl rfl)
theorem dL_law_633 : decode cL_law 633 = .ok (.invokevirtual 24, 3) := dk_182 0 24 (dk_at dksL_law_26 19 rfl rfl)
theorem dL_law_636 : decode cL_law 636 = .ok (.aload_n 3, 1) := dk_45 (dk_at dksL_law_26 22 rfl rfl)
theorem dL_law_637 : decode cL_law 637 = .ok (.iconst 0, 1) := dk_3 (dk_at dksL_law_26 23 rfl rfl)
theorem dL_law_638 : decode cL_law 638 = .ok (.iload_n 1, 1) := dk_27 (dk_at dksL_law_27 0 rfl rfl)
theorem dL_law_639 : decode cL_law 639 = .ok (.iconst 1, 1) := dk_4 (dk_at dksL_law_27 1 rfl rfl)
theorem dL_law_640 : decode cL_law 640 = .ok (.isub, 1) := dk_100 (dk_at dksL_law_27 2 rfl rfl)
theorem dL_law_641 : decode cL_law 641 = .ok (.invokevirtual 24, 3) := dk_182 0 24 (dk_at dksL_law_27 3 rfl rfl)
theorem dL_law_644 : decode cL_law 644 = .ok (.iconst (-1), 1) := dk_2 (dk_at dksL_law_27 6 rfl rfl)
theorem dL_law_645 : decode cL_law 645 = .ok (.iload 7, 2) := dk_21 7 (dk_at dksL_law_27 7 rfl rfl)
theorem dL_law_647 : decode cL_law 647 = .ok (.iushr, 1) := dk_124 (dk_at dksL_law_27 9 rfl rfl)
theorem dL_law_648 : decode cL_law 648 = .ok (.iand, 1) := dk_126 (dk_at dksL_law_27 10 rfl rfl)
theorem dL_law_649 : decode cL_law 649 = .ok (.if_icmp .eq 5, 3) := dk_159 0 5 (dk_at dksL_law_27 11 rfl rfl)
theorem dL_law_652 : decode cL_law 652 = .ok (.iconst 0, 1) := dk_3 (dk_at dksL_law_27 14 rfl rfl)
theorem dL_law_653 : decode cL_law 653 = .ok (.ireturn, 1) := dk_172 (dk_at dksL_law_27 15 rfl rfl)
theorem dL_law_654 : decode cL_law 654 = .ok (.aload_n 2, 1) := dk_44 (dk_at dksL_law_27 16 rfl rfl)
theorem dL_law_655 : decode cL_law 655 = .ok (.iconst 1, 1) := dk_4 (dk_at dksL_law_27 17 rfl rfl)
theorem dL_law_656 : decode cL_law 656 = .ok (.invokevirtual 76, 3) := dk_182 0 76 (dk_at dksL_law_27 18 rfl rfl)
theorem dL_law_659 : decode cL_law 659 = .ok (.istore 9, 2) := dk_54 9 (dk_at dksL_law_27 21 rfl rfl)
theorem dL_law_661 : decode cL_law 661 = .ok (.aload_n 2, 1) := dk_44 (dk_at dksL_law_27 23 rfl rfl)
theorem dL_law_662 : decode cL_law 662 = .ok (.iconst 1, 1) := dk_4 (dk_at dksL_law_28 0 rfl rfl)
theorem dL_law_663 : decode cL_law 663 = .ok (.invokevirtual 79, 3) := dk_182 0 79 (dk_at dksL_law_28 1 rfl rfl)
theorem dL_law_666 : decode cL_law 666 = .ok (.istore 10, 2) := dk_54 10 (dk_at dksL_law_28 4 rfl rfl)
theorem dL_law_668 : decode cL_law 668 = .ok (.iload 9, 2) := dk_21 9 (dk_at dksL_law_28 6 rfl rfl)
theorem dL_law_670 : decode cL_law 670 = .ok (.iload 10, 2) := dk_21 10 (dk_at dksL_law_28 8 rfl rfl)
theorem dL_law_672 : decode cL_law 672 = .ok (.ineg, 1) := dk_116 (dk_at dksL_law_28 10 rfl rfl)
theorem dL_law_673 : decode cL_law 673 = .ok (.if_icmp .ne 39, 3) := dk_160 0 39 (dk_at dksL_law_28 11 rfl rfl)
theorem dL_law_676 : decode cL_law 676 = .ok (.aload_n 2, 1) := dk_44 (dk_at dksL_law_28 14 rfl rfl)
theorem dL_law_677 : decode cL_law 677 = .ok (.iconst 1, 1) := dk_4 (dk_at dksL_law_28 15 rfl rfl)
theorem dL_law_678 : decode cL_law 678 = .ok (.aload_n 3, 1) := dk_45 (dk_at dksL_law_28 16 rfl rfl)
theorem dL_law_679 : decode cL_law 679 = .ok (.iconst 1, 1) := dk_4 (dk_at dksL_law_28 17 rfl rfl)
theorem dL_law_680 : decode cL_law 680 = .ok (.iload_n 1, 1) := dk_27 (dk_at dksL_law_28 18 rfl rfl)
theorem dL_law_681 : decode cL_law 681 = .ok (.invokestatic 55, 3) := dk_184 0 55 (dk_at dksL_law_28 19 rfl rfl)
theorem dL_law_684 : decode cL_law 684 = .ok (.ifCond .eq 28, 3) := dk_153 0 28 (dk_at dksL_law_29 0 rfl rfl)
theorem dL_law_687 : decode cL_law 687 = .ok (.aload_n 0, 1) := dk_42 (dk_at dksL_law_29 3 rfl rfl)
theorem dL_law_688 : decode cL_law 688 = .ok (.invokestatic 82, 3) := dk_184 0 82 (dk_at dksL_law_29 4 rfl rfl)
theorem dL_law_691 : decode cL_law 691 = .ok (.ifCond .eq 21, 3) := dk_153 0 21 (dk_at dksL_law_29 7 rfl rfl)
theorem dL_law_694 : decode cL_law 694 = .ok (.aload_n 0, 1) := dk_42 (dk_at dksL_law_29 10 rfl rfl)
theorem dL_law_695 : decode cL_law 695 = .ok (.invokestatic 86, 3) := dk_184 0 86 (dk_at dksL_law_29 11 rfl rfl)
theorem dL_law_698 : decode cL_law 698 = .ok (.ifCond .eq 14, 3) := dk_153 0 14 (dk_at dksL_law_29 14 rfl rfl)
theorem dL_law_701 : decode cL_law 701 = .ok (.aload_n 0, 1) := dk_42 (dk_at dksL_law_29 17 rfl rfl)
theorem dL_law_702 : decode cL_law 702 = .ok (.invokestatic 89, 3) := dk_184 0 89 (dk_at dksL_law_29 18 rfl rfl)
theorem dL_law_705 : decode cL_law 705 = .ok (.ifCond .eq 7, 3) := dk_153 0 7 (dk_at dksL_law_29 21 rfl rfl)
theorem dL_law_708 : decode cL_law 708 = .ok (.iconst 1, 1) := dk_4 (dk_at dksL_law_30 0 rfl rfl)
theorem dL_law_709 : decode cL_law 709 = .ok (.goto 4, 3) := dk_167 0 4 (dk_at dksL_law_30 1 rfl rfl)
theorem dL_law_712 : decode cL_law 712 = .ok (.iconst 0, 1) := dk_3 (dk_at dksL_law_30 4 rfl rfl)
theorem dL_law_713 : decode cL_law 713 = .ok (.ireturn, 1) := dk_172 (dk_at dksL_law_30 5 rfl rfl)
end
section
/-! ROWS OF THIS PROOF: one list of cells for a whole run; every contract is generic in it -/
set_option maxRecDepth 100000
abbrev vwCl : List vw_C := [(RX1, TX1, 3)]
/-- a row of ints, as a cell -/
abbrev wr_i (dI : ClassId) (a n : Nat) (f : Nat → Int32) : Nat × va_E := (a, .inl (dI, n, .inl f))
/-- a row of references -/
abbrev wr_q (dF : ClassId) (a n : Nat) (f : Nat → Option Nat) : Nat × va_E := (a, .inl (dF, n, .inr (.inr (.inr (.inr f)))))
/-- the array class of int[] is there -/
def wr_AO (U : State) : Prop := (Cond.arrayOver (.array .int)).before #[] U = true
def wr_tys (dI dF : ClassId) : List (ClassId × FieldType) := List.cons (dI, .int) (List.cons (dF, .array .int) List.nil)
def wr_K (D : va_G) (dI dF : ClassId) (U : State) : Prop := va_K D vwCl (wr_tys dI dF) U ∧ wr_AO U
theorem wr_K.moved {D : va_G} {dI dF : ClassId} {u U : State} (hvm : u.vm.Alike U.vm) (h : wr_K D dI dF u) : wr_K D dI dF U := ⟨h.1.moved hvm, over_moved hvm h.2⟩
theorem wr_K.rF {D : va_G} {dI dF : ClassId} {U : State} (h : wr_K D dI dF U) : U.vm.findClass ("[" ++ (FieldType.array .int).toString) = some dF := (h.1.2 1 (dF, .array .int) rfl).2
theorem wr_K.rI {D : va_G} {dI dF : ClassId} {U : State} (h : wr_K D dI dF U) : U.vm.findClass (FieldType.array .int).toString = some dI := (h.1.2 0 (dI, .int) rfl).2
/-- a contract's start: the arguments, the world ws in a heap of sz cells -/
def wr_Pc (D : va_G) (dI dF : ClassId) (av : List Value) (ws : va_W) (sz : Nat) : Array Value → State → Prop := va_Pc av (fun U => U.heap.size = sz ∧ va_P D vwCl ws U.heap ∧ wr_K D dI dF U ∧ va_D (fun _ => True) ws)
/-- a contract's end: the world ws -/
def wr_B (D : va_G) (A : Nat → Prop) (ws : va_W) (t : State) : Prop := va_P D vwCl ws t.heap ∧ va_D A ws
/-- the script, apart from the world -/
def wr_X (b L : Nat) (xs : Nat → Int32) (ws : va_W) (U : State) : Prop := va_X b L xs U U.heap ∧ b < U.heap.size ∧ ∀ (k : Nat) (e : va_E), ws[k]? = some (b, e) → False
/-- a contract's start with the script -/
def wr_PX (D : va_G) (dI dF : ClassId) (av : List Value) (ws : va_W) (sz b L : Nat) (xs : Nat → Int32) : Array Value → State → Prop := va_Pc av (fun U => U.heap.size = sz ∧ va_P D vwCl ws U.heap ∧ wr_K D dI dF U ∧ va_D (fun _ => True) ws ∧ wr_X b L xs ws U)
theorem wr_preS {s : State} {H : Heap} {D : va_G} {dI dF : ClassId} {A : Nat → Prop} {ws : va_W} {As : List Value} (hP : va_P D vwCl ws H) (hK : wr_K D dI dF s) (hD : va_D A ws) : PreS s H (wr_Pc D dI dF As ws H.size) As :=
  ⟨fun a U g mk q => by obtain ⟨q0, q1, qP, qK, qD⟩ := q; exact ⟨q0, q1, qP, wr_K.moved (u := U) (U := U.calling g mk a) (Vm.Alike.refl U.vm) qK, qD⟩,
   fun U hU hW => ⟨rfl, by rw [hU], by rw [hU]; exact hP, hK.moved hW.alike, hD.weaken (fun _ _ _ _ => trivial)⟩⟩
theorem wr_preV {s : State} {H : Heap} {D : va_G} {dI dF : ClassId} {A : Nat → Prop} {ws : va_W} {i h : Nat} {fs : List Value} {As : List Value} (he : ws[i]? = some (h, .inr (0, fs))) (hP : va_P D vwCl ws H) (hK : wr_K D dI dF s) (hD : va_D A ws) : PreV s H RX1 h (wr_Pc D dI dF (Value.ref h :: As) ws H.size) As :=
  ⟨(wr_preS (As := Value.ref h :: As) hP hK hD).1, va_recv hK.1 hP (ci := 0) (q := (RX1, TX1, 3)) rfl he, (wr_preS (As := Value.ref h :: As) hP hK hD).2⟩
theorem wr_X.at {b L : Nat} {xs : Nat → Int32} {s : State} {A : Nat → Prop} {H : Heap} {locs : List Loc} {ws : va_W} (hX : va_X b L xs s s.heap) (hbl : b < s.heap.size) (hbA : ¬ A b) (hS : va_S A s.heap H locs) (hD : va_D A ws) (U : State) (hU : U.heap = H) (hW : s.vm.Alike U.vm) : wr_X b L xs ws U :=
  ⟨by rw [hU]; exact (hX.kept (hS.2.1 b hbl hbA)).moved hW, by rw [hU]; exact Nat.lt_of_lt_of_le hbl hS.1, fun k e h => hbA (hD.2 k _ h)⟩
theorem wr_preX {s : State} {H : Heap} {D : va_G} {dI dF : ClassId} {A : Nat → Prop} {ws : va_W} {As : List Value} {b L : Nat} {xs : Nat → Int32} {locs : List Loc} (hX : va_X b L xs s s.heap) (hbl : b < s.heap.size) (hbA : ¬ A b) (hP : va_P D vwCl ws H) (hK : wr_K D dI dF s) (hD : va_D A ws) (hS : va_S A s.heap H locs) : PreS s H (wr_PX D dI dF As ws H.size b L xs) As :=
  ⟨fun a U g mk q => by
     obtain ⟨q0, q1, qP, qK, qD, qX⟩ := q
     exact ⟨q0, q1, qP, wr_K.moved (u := U) (U := U.calling g mk a) (Vm.Alike.refl U.vm) qK, qD, (va_X.moved (u := U) (U := U.calling g mk a) (Vm.Alike.refl U.vm) qX.1), qX.2⟩,
   fun U hU hW => ⟨rfl, by rw [hU], by rw [hU]; exact hP, hK.moved hW.alike, hD.weaken (fun _ _ _ _ => trivial), wr_X.at hX hbl hbA hS hD U hU hW.alike⟩⟩
/-- what a callee with the whole world may touch, the caller may -/
theorem wr_free {A : Nat → Prop} {ws : va_W} {H0 H : Heap} {locs : List Loc} (hD : va_D A ws) (hS : va_S A H0 H locs) (hA : ∀ q, H0.size ≤ q → A q) : ∀ q, va_A ws H.size q → A q := by
  intro q h
  rcases h with ⟨k, e, h⟩ | h
  · exact hD.2 k _ h
  · exact hA q (Nat.le_trans hS.1 h)
theorem wr_set_self {α : Type} {ws : List α} {k : Nat} {c : α} (h : ws[k]? = some c) : ws.set k c = ws := by
  apply List.ext_getElem?
  intro j
  by_cases hj : j = k
  · subst hj
    rw [List.getElem?_set_self (List.getElem?_eq_some_iff.mp h).1, h]
  · rw [List.getElem?_set_ne (Ne.symm hj)]
theorem wr_set_at {α : Type} {ws : List α} {k : Nat} {c0 c : α} (h : ws[k]? = some c0) : (ws.set k c)[k]? = some c := List.getElem?_set_self (List.getElem?_eq_some_iff.mp h).1
theorem wr_set_ne {α : Type} {ws : List α} {k j : Nat} {c : α} (h : j ≠ k) : (ws.set k c)[j]? = ws[j]? := List.getElem?_set_ne (Ne.symm h)
theorem wr_set_set {α : Type} {ws : List α} {k : Nat} {c d : α} : (ws.set k c).set k d = ws.set k d := by
  apply List.ext_getElem?
  intro j
  by_cases hj : j = k
  · subst hj
    by_cases hl : j < ws.length
    · rw [List.getElem?_set_self (by simpa using hl), List.getElem?_set_self hl]
    · rw [List.getElem?_eq_none (by simpa using Nat.le_of_not_lt hl), List.getElem?_eq_none (by simpa using Nat.le_of_not_lt hl)]
  · rw [List.getElem?_set_ne (Ne.symm hj), List.getElem?_set_ne (Ne.symm hj), List.getElem?_set_ne (Ne.symm hj)]
/-- reading a row that may be the one that is being written: at a place not yet written -/
theorem wr_rd {dI : ClassId} {ws : va_W} {i k a b n nk : Nat} {x z g : Nat → Int32} (hx : ws[i]? = some (wr_i dI a n x)) (hz : ws[k]? = some (wr_i dI b nk z)) {j : Nat} (hg : g j = z j) : ∃ f : Nat → Int32, (ws.set k (wr_i dI b nk g))[i]? = some (wr_i dI a n f) ∧ f j = x j := by
  by_cases h : i = k
  · subst h
    cases hx.symm.trans hz
    exact ⟨g, wr_set_at hx, hg⟩
  · exact ⟨x, (wr_set_ne h).trans hx, rfl⟩
/-- filled below i -/
def wr_f (w z : Nat → Int32) (i : Nat) : Nat → Int32 := fun j => if j < i then w j else z j
theorem wr_f0 (w z : Nat → Int32) : wr_f w z 0 = z := by funext j; simp [wr_f]
theorem wr_fu (w z : Nat → Int32) (i : Nat) : upd (wr_f w z i) i (w i) = wr_f w z (i + 1) := by
  funext j
  show (if j = i then w i else if j < i then w j else z j) = if j < i + 1 then w j else z j
  by_cases h : j = i
  · subst h
    rw [if_pos rfl, if_pos (Nat.lt_succ_self j)]
  · rw [if_neg h]
    by_cases h2 : j < i
    · rw [if_pos h2, if_pos (by omega)]
    · rw [if_neg h2, if_neg (by omega)]
theorem wr_fi (w z : Nat → Int32) {i j : Nat} (h : i ≤ j) : wr_f w z i j = z j := if_neg (Nat.not_lt.mpr h)
theorem wr_fl (w z : Nat → Int32) {i j : Nat} (h : j < i) : wr_f w z i j = w j := if_pos h
/-- a window of n places from o on, filled below i -/
def wr_g (w z : Nat → Int32) (o i : Nat) : Nat → Int32 := fun j => if o ≤ j ∧ j < o + i then w (j - o) else z j
theorem wr_g0 (w z : Nat → Int32) (o : Nat) : wr_g w z o 0 = z := by
  funext j
  unfold wr_g
  rw [if_neg (by omega)]
theorem wr_gu (w z : Nat → Int32) (o i : Nat) : upd (wr_g w z o i) (o + i) (w i) = wr_g w z o (i + 1) := by
  funext j
  show (if j = o + i then w i else if o ≤ j ∧ j < o + i then w (j - o) else z j) = if o ≤ j ∧ j < o + (i + 1) then w (j - o) else z j
  by_cases h : j = o + i
  · subst h
    rw [if_pos rfl, if_pos (by omega), Nat.add_sub_cancel_left]
  · rw [if_neg h]
    by_cases h2 : o ≤ j ∧ j < o + i
    · rw [if_pos h2, if_pos (by omega)]
    · rw [if_neg h2, if_neg (by omega)]
theorem wr_gi (w z : Nat → Int32) {o i j : Nat} (h : i ≤ j) : wr_g w z o i (o + j) = z (o + j) := by unfold wr_g; rw [if_neg (by omega)]
theorem wr_gl (w z : Nat → Int32) {o i j : Nat} (h : j < i) : wr_g w z o i (o + j) = w j := by unfold wr_g; rw [if_pos (by omega), Nat.add_sub_cancel_left]
theorem wr_go (w z : Nat → Int32) {o i j : Nat} (h : j < o ∨ o + i ≤ j) : wr_g w z o i j = z j := by unfold wr_g; rw [if_neg (by omega)]
section WRR
variable {p : Program} {l : Launch} {e : Env} {R : Room} {s : State} {m : MethodId} {args : Array Value} {below : List Frame} {meth : Method} {c : Code} {H : Heap} {locs : List Loc} {cells slots : Nat} {Q : State → Prop}
variable {cc : ByteArray} {pc : Nat} {ls : Array Slot} {rest : List Value} {D : va_G} {dI dF : ClassId} {A : Nat → Prop} {a : Nat} {ws : va_W} {H0 : Heap}
/-- the number on top, said otherwise -/
theorem wr_topi {x : Int32} (y : Int32) (h : x = y) (k : W p l e R s m args below meth c H locs cells slots Q (F0 m pc ls (.int y :: rest))) : W p l e R s m args below meth c H locs cells slots Q (F0 m pc ls (.int x :: rest)) := by subst h; exact k
theorem wr_topl {x : Int64} (y : Int64) (h : x = y) (k : W p l e R s m args below meth c H locs cells slots Q (F0 m pc ls (.long y :: rest))) : W p l e R s m args below meth c H locs cells slots Q (F0 m pc ls (.long x :: rest)) := by subst h; exact k
theorem wr_iald (hx : p.tables.exec = Jvm.exec) (hb : c.code = cc) (hK : wr_K D dI dF s) (hP : va_P D vwCl ws H) {q n j : Nat} {f : Nat → Int32} (ha : ws[q]? = some (wr_i dI a n f)) (hj : j < n) (hn : n < 2 ^ 31) (hdg : decode cc pc = .ok (.iaload, 1))
    (kk : W p l e R s m args below meth c H locs cells slots Q (F0 m (pc + 1) ls (.int (f j) :: rest))) : W p l e R s m args below meth c H locs cells slots Q (F0 m pc ls (.int (nI j) :: .ref a :: rest)) := by
  refine va_iald hx hb hK.1 hP q 0 ha rfl (vp_in_nI hj hn) hdg ?_
  rw [nI_clamp (Nat.lt_trans hj hn)]
  exact kk
theorem wr_iast (hx : p.tables.exec = Jvm.exec) (hb : c.code = cc) (hK : wr_K D dI dF s) (hP : va_P D vwCl ws H) (hD : va_D A ws) (hS : va_S A H0 H locs) {q n j : Nat} {f : Nat → Int32} {x : Int32} (ha : ws[q]? = some (wr_i dI a n f)) (hj : j < n) (hn : n < 2 ^ 31) (ws' : va_W) (hw : ws.set q (wr_i dI a n (upd f j x)) = ws') (hdg : decode cc pc = .ok (.iastore, 1))
    (kk : ∀ (H1 : Heap) (locs1 : List Loc), va_P D vwCl ws' H1 → va_D A ws' → va_S A H0 H1 locs1 → W p l e R s m args below meth c H1 locs1 cells slots Q (F0 m (pc + 1) ls rest)) : W p l e R s m args below meth c H locs cells slots Q (F0 m pc ls (.int x :: .int (nI j) :: .ref a :: rest)) := by
  subst hw
  refine va_iast hx hb hK.1 hP hD hS q 0 ha rfl (vp_in_nI hj hn) hdg ?_
  rw [nI_clamp (Nat.lt_trans hj hn)]
  exact kk
/-- a row out of an array of rows -/
theorem wr_aald (hx : p.tables.exec = Jvm.exec) (hb : c.code = cc) (hK : wr_K D dI dF s) (hP : va_P D vwCl ws H) {q n j r : Nat} {f : Nat → Option Nat} (ha : ws[q]? = some (wr_q dF a n f)) (hj : j < n) (hn : n < 2 ^ 31) (hr : f j = some r) (hdg : decode cc pc = .ok (.aaload, 1))
    (kk : W p l e R s m args below meth c H locs cells slots Q (F0 m (pc + 1) ls (.ref r :: rest))) : W p l e R s m args below meth c H locs cells slots Q (F0 m pc ls (.int (nI j) :: .ref a :: rest)) := by
  have hin := vp_in_nI hj hn
  have hcl := nI_clamp (Nat.lt_trans hj hn)
  refine W.aald (v := va_rf (f (nI j).toNatClampNeg)) (ty := .array .int) hx hb (hP q _ ha) ((hK.1.2 1 _ rfl).1 n (fun j => va_rf (f j))) rfl (fun q => by cases q) (by show ¬ (_ < 0 ∨ (arrV _ _ _).slots.size ≤ _); rw [arrV_size]; exact hin) (by show (arrV _ _ _).slots[_]? = _; rw [arrV_read _ _ (by rw [hcl]; exact hj)]) rfl rfl hdg ?_
  rw [hcl, hr]
  exact kk
/-- a row into an array of rows -/
theorem wr_aast (hx : p.tables.exec = Jvm.exec) (hb : c.code = cc) (hK : wr_K D dI dF s) (hP : va_P D vwCl ws H) (hD : va_D A ws) (hS : va_S A H0 H locs) {q q2 n j r n2 : Nat} {f : Nat → Option Nat} {f2 : Nat → Int32} (ha : ws[q]? = some (wr_q dF a n f)) (ha2 : ws[q2]? = some (wr_i dI r n2 f2)) (hj : j < n) (hn : n < 2 ^ 31) (ws' : va_W) (hw : ws.set q (wr_q dF a n (va_up f j (some r))) = ws') (hdg : decode cc pc = .ok (.aastore, 1))
    (kk : ∀ (H1 : Heap) (locs1 : List Loc), va_P D vwCl ws' H1 → va_D A ws' → va_S A H0 H1 locs1 → W p l e R s m args below meth c H1 locs1 cells slots Q (F0 m (pc + 1) ls rest)) : W p l e R s m args below meth c H locs cells slots Q (F0 m pc ls (.ref r :: .int (nI j) :: .ref a :: rest)) := by
  subst hw
  have hcl := nI_clamp (Nat.lt_trans hj hn)
  obtain ⟨comp, cF, kA, h1, -, k1, k2, h5⟩ := arrayOverA_spec hK.2
  have e1 : cF = dF := Option.some.inj (h5.symm.trans hK.rF)
  have e2 : comp = dI := Option.some.inj (h1.symm.trans hK.rI)
  subst e1
  subst e2
  obtain ⟨kE, hkE, -⟩ := Vm.findClass_spec h1
  refine W.aast hx hb (hP q _ ha) (fun q h => by cases h) (fun h => by cases h) k1 k2 rfl hkE ⟨nI_pos (Nat.lt_trans hj hn), by show _ < (arrV _ _ _).slots.size; rw [arrV_size, hcl]; exact hj⟩ (hP q2 _ ha2) (fun q h => by cases h) (kv := kE) hkE ?_ rfl rfl hdg fun H1 e z oq => ?_
  · exact va_asg s.vm comp
  · refine kk H1 _ (hP.set hD ha ?_ oq) (hD.set ha) (hS.put z oq (hD.2 q _ ha))
    show H1[a]? = some (vp_cell _ _)
    rw [e]
    rw [vp_cell_q, vp_cell_q, arrV_store]
    congr 2
    funext i
    by_cases hi : i = j
    · subst hi
      simp [updV, va_up, va_rf, hcl]
    · simp [updV, va_up, hcl, hi]
/-- a new row of k ints -/
theorem wr_newa (hx : p.tables.exec = Jvm.exec) (hb : c.code = cc) (harr : (Cond.arrayClass .int).before args s = true) (hK : wr_K D dI dF s) (hP : va_P D vwCl ws H) (hD : va_D A ws) (hS : va_S A H0 H locs) (hA : ∀ q, H0.size ≤ q → A q) {k : Nat} (hk : k ≤ 1000) (hc : cells + 1 ≤ R.cells) (hs : slots + k ≤ R.slots) (hdg : decode cc pc = .ok (.newarray .int, 2))
    (kk : ∀ (q : Nat) (H1 : Heap), va_P D vwCl (ws ++ [wr_i dI q k (fun _ => 0)]) H1 → va_D A (ws ++ [wr_i dI q k (fun _ => 0)]) → va_S A H0 H1 locs → W p l e R s m args below meth c H1 locs (cells + 1) (slots + k) Q (F0 m (pc + 2) ls (.ref q :: rest))) : W p l e R s m args below meth c H locs cells slots Q (F0 m pc ls (.int (nI k) :: rest)) := by
  refine va_newa (atype := .int) (ty := .int) (a0 := (k, .inl (fun _ => 0))) hx hb harr rfl hK.1 hP hD hS hA (fun cA => rfl) (nI_pos (by omega)) (nI_clamp (by omega)) (by show k * 4 ≤ 536870912; omega) hc hs hdg (fun q cA H1 hK1 hP1 hD1 hS1 => ?_)
  have e : cA = dI := Option.some.inj ((show s.vm.findClass (FieldType.array .int).toString = some cA from (hK1.2 2 (cA, .int) rfl).2).symm.trans hK.rI)
  subst e
  exact kk q H1 hP1 hD1 hS1
/-- a new row of k longs -/
theorem wr_newl (hx : p.tables.exec = Jvm.exec) (hb : c.code = cc) (harr : (Cond.arrayClass .long).before args s = true) (hK : wr_K D dI dF s) (hP : va_P D vwCl ws H) (hD : va_D A ws) (hS : va_S A H0 H locs) (hA : ∀ q, H0.size ≤ q → A q) {k : Nat} (hk : k ≤ 1000) (hc : cells + 1 ≤ R.cells) (hs : slots + k ≤ R.slots) (hdg : decode cc pc = .ok (.newarray .long, 2))
    (kk : ∀ (q : Nat) (dL : ClassId) (H1 : Heap), va_K D vwCl [(dL, .long)] s → va_P D vwCl (ws ++ [(q, .inl (dL, k, .inr (.inl (fun _ => 0))))]) H1 → va_D A (ws ++ [(q, .inl (dL, k, .inr (.inl (fun _ => 0))))]) → va_S A H0 H1 locs → W p l e R s m args below meth c H1 locs (cells + 1) (slots + k) Q (F0 m (pc + 2) ls (.ref q :: rest))) : W p l e R s m args below meth c H locs cells slots Q (F0 m pc ls (.int (nI k) :: rest)) := by
  refine va_newa (atype := .long) (ty := .long) (a0 := (k, .inr (.inl (fun _ => 0)))) hx hb harr rfl hK.1 hP hD hS hA (fun cA => rfl) (nI_pos (by omega)) (nI_clamp (by omega)) (by show k * 8 ≤ 536870912; omega) hc hs hdg (fun q cA H1 hK1 hP1 hD1 hS1 => ?_)
  exact kk q cA H1 (hK1.sub [2] rfl) hP1 hD1 hS1
theorem wr_lald {dL : ClassId} (hx : p.tables.exec = Jvm.exec) (hb : c.code = cc) (hK : va_K D vwCl [(dL, .long)] s) (hP : va_P D vwCl ws H) {q n j : Nat} {f : Nat → Int64} (ha : ws[q]? = some (a, .inl (dL, n, .inr (.inl f)))) (hj : j < n) (hn : n < 2 ^ 31) (hdg : decode cc pc = .ok (.laload, 1))
    (kk : W p l e R s m args below meth c H locs cells slots Q (F0 m (pc + 1) ls (.long (f j) :: rest))) : W p l e R s m args below meth c H locs cells slots Q (F0 m pc ls (.int (nI j) :: .ref a :: rest)) := by
  refine va_lald hx hb hK hP q 0 ha rfl (vp_in_nI hj hn) hdg ?_
  rw [nI_clamp (Nat.lt_trans hj hn)]
  exact kk
theorem wr_last {dL : ClassId} (hx : p.tables.exec = Jvm.exec) (hb : c.code = cc) (hK : va_K D vwCl [(dL, .long)] s) (hP : va_P D vwCl ws H) (hD : va_D A ws) (hS : va_S A H0 H locs) {q n j : Nat} {f : Nat → Int64} {x : Int64} (ha : ws[q]? = some (a, .inl (dL, n, .inr (.inl f)))) (hj : j < n) (hn : n < 2 ^ 31) (ws' : va_W) (hw : ws.set q (a, .inl (dL, n, .inr (.inl (vp_updL f j x)))) = ws') (hdg : decode cc pc = .ok (.lastore, 1))
    (kk : ∀ (H1 : Heap) (locs1 : List Loc), va_P D vwCl ws' H1 → va_D A ws' → va_S A H0 H1 locs1 → W p l e R s m args below meth c H1 locs1 cells slots Q (F0 m (pc + 1) ls rest)) : W p l e R s m args below meth c H locs cells slots Q (F0 m pc ls (.long x :: .int (nI j) :: .ref a :: rest)) := by
  subst hw
  refine va_last hx hb hK hP hD hS q 0 ha rfl (vp_in_nI hj hn) hdg ?_
  rw [nI_clamp (Nat.lt_trans hj hn)]
  exact kk
/-- calls: the callee has the whole world; it makes nothing -/
theorem wr_calli0 {S : Type} {post : Int32 → S → Prop} {W' : S → va_W} {st0 : List Value} {aa : Array Value} (hD : va_D A ws) (hS : va_S A H0 H locs) (hA : ∀ q, H0.size ≤ q → A q) (hr : va_Run p l e R s m args below meth c H locs cells slots 0 0 (F0 m pc ls st0) rest (va_Qi post (fun u t => wr_B D (va_A ws H.size) (W' u) t) (va_A ws H.size) aa) (va_A ws H.size))
    (kk : ∀ (r : Int32) (u : S) (H1 : Heap) (locs1 : List Loc), post r u → va_P D vwCl (W' u) H1 → va_D A (W' u) → va_S A H0 H1 locs1 → W p l e R s m args below meth c H1 locs1 cells slots Q (F0 m (pc + 3) ls (.int r :: rest))) : W p l e R s m args below meth c H locs cells slots Q (F0 m pc ls st0) :=
  va_calli hr hS (fun q _ h => wr_free hD hS hA q h) (wr_free hD hS hA) (fun r u t H1 locs1 ht _ hp hB _ _ hS1 => kk r u H1 locs1 hp (by rw [← ht]; exact hB.1) (hB.2.weaken (fun _ _ _ h => wr_free hD hS hA _ h)) hS1)
theorem wr_callv0 {S : Type} {post : S → Prop} {W' : S → va_W} {st0 : List Value} {aa : Array Value} (hD : va_D A ws) (hS : va_S A H0 H locs) (hA : ∀ q, H0.size ≤ q → A q) (hr : va_Run p l e R s m args below meth c H locs cells slots 0 0 (F0 m pc ls st0) rest (va_Qv post (fun u t => wr_B D (va_A ws H.size) (W' u) t) (va_A ws H.size) aa) (va_A ws H.size))
    (kk : ∀ (u : S) (H1 : Heap) (locs1 : List Loc), post u → va_P D vwCl (W' u) H1 → va_D A (W' u) → va_S A H0 H1 locs1 → W p l e R s m args below meth c H1 locs1 cells slots Q (F0 m (pc + 3) ls rest)) : W p l e R s m args below meth c H locs cells slots Q (F0 m pc ls st0) :=
  va_callv hr hS (fun q _ h => wr_free hD hS hA q h) (wr_free hD hS hA) (fun u t H1 locs1 ht _ hp hB _ _ hS1 => kk u H1 locs1 hp (by rw [← ht]; exact hB.1) (hB.2.weaken (fun _ _ _ h => wr_free hD hS hA _ h)) hS1)
/-- calls that make cells -/
theorem wr_calli {S : Type} {post : Int32 → S → Prop} {W' : S → va_W} {st0 : List Value} {aa : Array Value} {mc ms : Nat} (hD : va_D A ws) (hS : va_S A H0 H locs) (hA : ∀ q, H0.size ≤ q → A q) (hr : va_Run p l e R s m args below meth c H locs cells slots mc ms (F0 m pc ls st0) rest (va_Qi post (fun u t => wr_B D (va_A ws H.size) (W' u) t) (va_A ws H.size) aa) (va_A ws H.size))
    (kk : ∀ (r : Int32) (u : S) (H1 : Heap) (locs1 : List Loc), post r u → va_P D vwCl (W' u) H1 → va_D A (W' u) → va_S A H0 H1 locs1 → W p l e R s m args below meth c H1 locs1 (cells + mc) (slots + ms) Q (F0 m (pc + 3) ls (.int r :: rest))) : W p l e R s m args below meth c H locs cells slots Q (F0 m pc ls st0) :=
  va_calli hr hS (fun q _ h => wr_free hD hS hA q h) (wr_free hD hS hA) (fun r u t H1 locs1 ht _ hp hB _ _ hS1 => kk r u H1 locs1 hp (by rw [← ht]; exact hB.1) (hB.2.weaken (fun _ _ _ h => wr_free hD hS hA _ h)) hS1)
theorem wr_callv {S : Type} {post : S → Prop} {W' : S → va_W} {st0 : List Value} {aa : Array Value} {mc ms : Nat} (hD : va_D A ws) (hS : va_S A H0 H locs) (hA : ∀ q, H0.size ≤ q → A q) (hr : va_Run p l e R s m args below meth c H locs cells slots mc ms (F0 m pc ls st0) rest (va_Qv post (fun u t => wr_B D (va_A ws H.size) (W' u) t) (va_A ws H.size) aa) (va_A ws H.size))
    (kk : ∀ (u : S) (H1 : Heap) (locs1 : List Loc), post u → va_P D vwCl (W' u) H1 → va_D A (W' u) → va_S A H0 H1 locs1 → W p l e R s m args below meth c H1 locs1 (cells + mc) (slots + ms) Q (F0 m (pc + 3) ls rest)) : W p l e R s m args below meth c H locs cells slots Q (F0 m pc ls st0) :=
  va_callv hr hS (fun q _ h => wr_free hD hS hA q h) (wr_free hD hS hA) (fun u t H1 locs1 ht _ hp hB _ _ hS1 => kk u H1 locs1 hp (by rw [← ht]; exact hB.1) (hB.2.weaken (fun _ _ _ h => wr_free hD hS hA _ h)) hS1)
theorem wr_callr {S : Type} {P : S → Nat → Prop} {W' : S → va_W} {st0 : List Value} {aa : Array Value} {mc ms : Nat} (hD : va_D A ws) (hS : va_S A H0 H locs) (hA : ∀ q, H0.size ≤ q → A q) (hr : va_Run p l e R s m args below meth c H locs cells slots mc ms (F0 m pc ls st0) rest (va_Qr (fun _ => True) (fun u q t => wr_B D (va_A ws H.size) (W' u) t ∧ P u q) (va_A ws H.size) aa) (va_A ws H.size))
    (kk : ∀ (u : S) (q : Nat) (H1 : Heap) (locs1 : List Loc), P u q → va_P D vwCl (W' u) H1 → va_D A (W' u) → va_S A H0 H1 locs1 → W p l e R s m args below meth c H1 locs1 (cells + mc) (slots + ms) Q (F0 m (pc + 3) ls (.ref q :: rest))) : W p l e R s m args below meth c H locs cells slots Q (F0 m pc ls st0) :=
  va_callr hr hS (fun q _ h => wr_free hD hS hA q h) (wr_free hD hS hA) (fun u q t H1 locs1 ht _ _ hB _ _ hS1 => kk u q H1 locs1 hB.2 (by rw [← ht]; exact hB.1.1) (hB.1.2.weaken (fun _ _ _ h => wr_free hD hS hA _ h)) hS1)
/-- ends -/
theorem wr_iret {S : Type} {post : Int32 → S → Prop} {W' : S → va_W} {v : Int32} {mc ms : Nat} (u : S) (hx : p.tables.exec = Jvm.exec) (hb : c.code = cc) (hr : meth.sig.returnType = some .int) (hlocks : meth.locks = false) (hP : va_P D vwCl (W' u) H) (hD : va_D A (W' u)) (hS : va_S A s.heap H locs) (hp : post v u) (hc : cells ≤ mc) (hs : slots ≤ ms) (hdg : decode cc pc = .ok (.ireturn, 1)) : W p l e R s m args below meth c H locs cells slots (MQ below (va_Qi post (fun u t => wr_B D A (W' u) t) A) args s mc ms A) (F0 m pc ls [.int v]) := by
  refine W.widen hc hs ?_
  exact W.iret (v := v) hx hb hr (fun t ht hW => ⟨⟨v, u, rfl, hp, ⟨by rw [ht]; exact hP, hD⟩⟩, hS.F ht⟩) hS.2.2 hdg hlocks
theorem wr_zret {S : Type} {post : Int32 → S → Prop} {W' : S → va_W} {v : Int32} {mc ms : Nat} (u : S) (hx : p.tables.exec = Jvm.exec) (hb : c.code = cc) (hr : meth.sig.returnType = some .boolean) (hlocks : meth.locks = false) (hn : narrow .boolean (.int v) = .int v) (hP : va_P D vwCl (W' u) H) (hD : va_D A (W' u)) (hS : va_S A s.heap H locs) (hp : post v u) (hc : cells ≤ mc) (hs : slots ≤ ms) (hdg : decode cc pc = .ok (.ireturn, 1)) : W p l e R s m args below meth c H locs cells slots (MQ below (va_Qi post (fun u t => wr_B D A (W' u) t) A) args s mc ms A) (F0 m pc ls [.int v]) := by
  refine W.widen hc hs ?_
  exact W.zret (v := v) hx hb hr hn (fun t ht hW => ⟨⟨v, u, rfl, hp, ⟨by rw [ht]; exact hP, hD⟩⟩, hS.F ht⟩) hS.2.2 hdg hlocks
theorem wr_vret {S : Type} {post : S → Prop} {W' : S → va_W} {mc ms : Nat} (u : S) (hx : p.tables.exec = Jvm.exec) (hb : c.code = cc) (hr : meth.sig.returnType = none) (hlocks : meth.locks = false) (hP : va_P D vwCl (W' u) H) (hD : va_D A (W' u)) (hS : va_S A s.heap H locs) (hp : post u) (hc : cells ≤ mc) (hs : slots ≤ ms) (hdg : decode cc pc = .ok (.return_, 1)) : W p l e R s m args below meth c H locs cells slots (MQ below (va_Qv post (fun u t => wr_B D A (W' u) t) A) args s mc ms A) (F0 m pc ls []) := by
  refine W.widen hc hs ?_
  exact W.vret hx hb hr (fun t ht hW => ⟨⟨u, rfl, hp, ⟨by rw [ht]; exact hP, hD⟩⟩, hS.F ht⟩) hS.2.2 hdg hlocks
theorem wr_aret {S : Type} {P : S → Nat → Prop} {W' : S → va_W} {q : Nat} {nm : String} {mc ms : Nat} (u : S) (hx : p.tables.exec = Jvm.exec) (hb : c.code = cc) (hr : meth.sig.returnType = some (.object nm)) (hlocks : meth.locks = false) (hP : va_P D vwCl (W' u) H) (hD : va_D A (W' u)) (hS : va_S A s.heap H locs) (hp : P u q) (hc : cells ≤ mc) (hs : slots ≤ ms) (hdg : decode cc pc = .ok (.areturn, 1)) : W p l e R s m args below meth c H locs cells slots (MQ below (va_Qr (fun _ => True) (fun u q t => wr_B D A (W' u) t ∧ P u q) A) args s mc ms A) (F0 m pc ls [.ref q]) := by
  refine W.widen hc hs ?_
  exact W.aret (v := .ref q) hx hb hr (Or.inl ⟨nm, rfl⟩) (Or.inr ⟨q, rfl⟩) (fun t ht hW => ⟨⟨u, q, rfl, trivial, ⟨by rw [ht]; exact hP, hD⟩, hp⟩, hS.F ht⟩) hS.2.2 hdg hlocks
end WRR
/-- a new int[4][k]: the outer row and its four -/
def wr_four (dI dF : ClassId) (q k : Nat) : va_W := [wr_q dF q 4 (fun i => some (q + 1 + i)), wr_i dI (q + 1) k (fun _ => 0), wr_i dI (q + 2) k (fun _ => 0), wr_i dI (q + 3) k (fun _ => 0), wr_i dI (q + 4) k (fun _ => 0)]
theorem wr_outer (cA : ClassId) (h : Nat) : Jvm.Free.Multi.outerC cA 4 h 4 = arrV cA 4 (fun j => va_rf (some (h + 1 + j))) := by
  have e : Jvm.Free.Multi.outerC cA 4 h 4 = { cls := cA, slots := (Jvm.Free.Multi.outerC cA 4 h 4).slots, vm := .none } := rfl
  rw [e]
  have e2 : (Jvm.Free.Multi.outerC cA 4 h 4).slots = Array.ofFn (n := 4) (fun j => va_rf (some (h + 1 + j.val))) := by
    apply Array.ext_getElem?
    intro i
    by_cases hi : i < 4
    · rw [Jvm.Free.Multi.outerC_slot cA 4 h 4 i hi, if_pos hi]
      simp [hi, va_rf]
    · have h1 := (Jvm.Free.Multi.outerC_facts cA 4 h 4).2.2
      rw [Array.getElem?_eq_none (by rw [h1]; omega), Array.getElem?_eq_none (by simp; omega)]
  rw [e2]
  rfl
theorem wr_push5 {A : Nat → Prop} {ws w5 : va_W} {sz : Nat} {D : va_G} {cl : List vw_C} {H : Heap} (hD : va_D A ws) (hP : va_P D cl ws H) (hz : H.size = sz) (hA : ∀ q, sz ≤ q → A q) (h5 : ∀ (k : Nat) (q : Nat × va_E), w5[k]? = some q → q.1 = sz + k) : va_D A (ws ++ w5) := by
  refine va_D.app hD ⟨fun i j p q hi hj hpq => ?_, fun k q hk => hA _ (by rw [h5 k q hk]; omega)⟩ (fun i j p q hi hj hpq => ?_)
  · have h1 := h5 i p hi
    have h2 := h5 j q hj
    omega
  · have h1 := (hP i p hi).lt
    have h2 := h5 j q hj
    omega
theorem wr_mnew {p : Program} {l : Launch} {e : Env} {R : Room} {s : State} {m : MethodId} {args : Array Value} {below : List Frame} {meth : Method} {c : Code} {H : Heap} {locs : List Loc} {cells slots : Nat} {Q : State → Prop} {cc : ByteArray} {pc : Nat} {ls : Array Slot} {rest : List Value} {D : va_G} {dI dF : ClassId} {A : Nat → Prop} {ws : va_W} {H0 : Heap} {own : String} {index : Nat}
    (hx : p.tables.exec = Jvm.exec) (hb : c.code = cc) (hown : s.vm.findClass own = some m.cls) (hcl : (Cond.classLink own index "[[I").before args s = true) (harr : (Cond.arrayClass .int).before args s = true) (hK : wr_K D dI dF s) (hP : va_P D vwCl ws H) (hD : va_D A ws) (hS : va_S A H0 H locs) (hA : ∀ q, H0.size ≤ q → A q) {k : Nat} (hk : k ≤ 1000) (hc : cells + 5 ≤ R.cells) (hs : slots + (4 + 4 * k) ≤ R.slots) (hdg : decode cc pc = .ok (.multianewarray index 2, 4))
    (kk : ∀ (q : Nat) (H1 : Heap), va_P D vwCl (ws ++ wr_four dI dF q k) H1 → va_D A (ws ++ wr_four dI dF q k) → va_S A H0 H1 locs → W p l e R s m args below meth c H1 locs (cells + 5) (slots + (4 + 4 * k)) Q (F0 m (pc + 4) ls (.ref q :: rest))) : W p l e R s m args below meth c H locs cells slots Q (F0 m pc ls (.int (nI k) :: .int (nI 4) :: rest)) := by
  intro T hT X
  subst hT
  have c4 : (nI 4).toNatClampNeg = 4 := nI_clamp (by decide)
  have ck : (nI k).toNatClampNeg = k := nI_clamp (by omega)
  obtain ⟨vm₁, cA, comp, hW, hfA, hfC, hO, hI, X1, st⟩ := X.multianewarray2F hx (own := own) (index := index) (ty := .int) hown hcl (over_moved (Vm.Alike.refl s.vm) hK.2) harr (g := F0 m pc ls (.int (nI k) :: .int (nI 4) :: rest)) rfl (by rw [hb]; exact hdg) (n := nI 4) (k := nI k) (rest := rest) rfl (nI_pos (by decide)) (nI_pos (by omega)) (by rw [c4]; decide) (by rw [ck]; show k * 4 ≤ 536870912; omega) (by rw [ck]; omega) rfl rfl (by rw [c4]; omega) (by rw [c4, ck]; omega)
  rw [c4, ck] at X1 st
  have e1 : cA = dF := Option.some.inj (hfA.symm.trans hK.rF)
  have e2 : comp = dI := Option.some.inj (hfC.symm.trans hK.rI)
  subst e1
  subst e2
  obtain ⟨f1, f2, f3, f4⟩ := Jvm.Free.Multi.fill_facts (T.setVm vm₁) cA comp 4 k (defaultValue .int) 4
  have fo : ∀ a : Addr, a < T.heap.size → _ := fun a ha => Jvm.Free.Multi.fill_old (T.setVm vm₁) cA comp 4 k (defaultValue .int) (a := a) ha 4
  have fi := fun (j : Nat) (hj : j < 4) => Jvm.Free.Multi.fill_inner (T.setVm vm₁) cA comp 4 k (defaultValue .int) 4 j hj
  have hin : Jvm.Free.Multi.innerC comp k (defaultValue .int) = arrV comp k (fun _ => .int 0) := by rw [← arrV_new]; rfl
  rw [hin] at fi
  rw [wr_outer] at f2
  generalize hF : Jvm.Free.Multi.fill (T.setVm vm₁) cA comp 4 k (defaultValue .int) 4 = F at X1 st f1 f2 fo fi
  have hsz : (T.setVm vm₁).heap = T.heap := rfl
  rw [hsz] at f1 f2 fi fo
  have hP1 : va_P D vwCl (ws ++ wr_four comp cA T.heap.size k) F.heap := by
    refine (hP.kept (fun i q hq => fo q.1 (hP i q hq).lt)).app (fun i q hq => ?_)
    match i, hq with
    | 0, hq => cases hq; exact f2
    | 1, hq => cases hq; exact fi 0 (by decide)
    | 2, hq => cases hq; exact fi 1 (by decide)
    | 3, hq => cases hq; exact fi 2 (by decide)
    | 4, hq => cases hq; exact fi 3 (by decide)
    | i + 5, hq => simp [wr_four] at hq
  have hD1 : va_D A (ws ++ wr_four comp cA T.heap.size k) := by
    refine wr_push5 hD hP rfl (fun q h => hA q (Nat.le_trans hS.1 h)) (fun i q hq => ?_)
    match i, hq with
    | 0, hq => cases hq; rfl
    | 1, hq => cases hq; rfl
    | 2, hq => cases hq; rfl
    | 3, hq => cases hq; rfl
    | 4, hq => cases hq; rfl
    | i + 5, hq => simp [wr_four] at hq
  have hS1 : va_S A H0 F.heap locs := ⟨by rw [f1]; exact Nat.le_trans hS.1 (by omega), fun q h1 h2 => (fo q (Nat.lt_of_lt_of_le h1 hS.1)).trans (hS.2.1 q h1 h2), hS.2.2⟩
  obtain ⟨t, a1, b1⟩ := kk T.heap.size F.heap hP1 hD1 hS1 F rfl (stand_widen X1 (by omega) (by omega))
  exact ⟨t, st t a1, b1⟩
abbrev wr_r0 : Room := { frames := 0, cells := 0, slots := 0, locals := 0 }
abbrev wr_r1 : Room := { frames := 1, cells := 0, slots := 0, locals := 40 }
abbrev wr_r2 : Room := { frames := 2, cells := 0, slots := 0, locals := 80 }
abbrev wr_r3 : Room := { frames := 3, cells := 0, slots := 0, locals := 110 }
end
section
/-! PURE: words, carries, values. No machine here. -/
set_option maxRecDepth 100000
/-- a word as a natural -/
def wn_w (x : Int32) : Nat := x.toBitVec.toNat
theorem wn_w_lt (x : Int32) : wn_w x < 4294967296 := x.toBitVec.isLt
theorem wn_w_nI (n : Nat) : wn_w (nI n) = n % 4294967296 := by
  show (BitVec.ofNat 32 n).toNat = _
  rw [BitVec.toNat_ofNat]
theorem wn_w_lt' {n : Nat} (h : n < 4294967296) : wn_w (nI n) = n := by rw [wn_w_nI, Nat.mod_eq_of_lt h]
theorem wn_nI_w (x : Int32) : nI (wn_w x) = x := by
  apply Int32.toBitVec_inj.mp
  apply BitVec.eq_of_toNat_eq
  show (BitVec.ofNat 32 x.toBitVec.toNat).toNat = _
  rw [BitVec.toNat_ofNat, Nat.mod_eq_of_lt x.toBitVec.isLt]
theorem wn_w_inj {x y : Int32} (h : wn_w x = wn_w y) : x = y := by rw [← wn_nI_w x, ← wn_nI_w y, h]
theorem wn_nI_mod {a b : Nat} (h : a % 4294967296 = b % 4294967296) : nI a = nI b := wn_w_inj (by rw [wn_w_nI, wn_w_nI, h])
theorem wn_w0 : wn_w 0 = 0 := rfl
/-- an int widened and masked: the word as a long -/
theorem wn_i2l (x : Int32) : x.toInt64 &&& 4294967295 = lN (wn_w x) := by
  apply Int64.toBitVec_inj.mp
  apply BitVec.eq_of_toNat_eq
  rw [Int64.toBitVec_and, BitVec.toNat_and]
  have h1 : (4294967295 : Int64).toBitVec.toNat = 2 ^ 32 - 1 := by decide
  rw [h1, Nat.and_two_pow_sub_one_eq_mod]
  have h2 : x.toInt64.toBitVec = x.toBitVec.signExtend 64 := rfl
  rw [h2]
  have h3 : (lN (wn_w x)).toBitVec.toNat = wn_w x := by
    show (BitVec.ofNat 64 _).toNat = _
    rw [BitVec.toNat_ofNat, Nat.mod_eq_of_lt]
    have := wn_w_lt x
    omega
  rw [h3]
  have h4 : (x.toBitVec.signExtend 64).toNat % 2 ^ 32 = ((x.toBitVec.signExtend 64).setWidth 32).toNat := by rw [BitVec.toNat_setWidth]
  rw [h4]
  have h5 : (x.toBitVec.signExtend 64).setWidth 32 = x.toBitVec := by
    apply BitVec.eq_of_getLsbD_eq
    intro i hi
    rw [BitVec.getLsbD_setWidth, BitVec.getLsbD_signExtend]
    simp [hi, show i < 64 by omega]
  rw [h5]
  rfl
theorem wn_tb (n : Nat) : (lN n).toBitVec = BitVec.ofNat 64 n := rfl
theorem wn_inj {a b : Int64} (h : a.toBitVec = b.toBitVec) : a = b := Int64.toBitVec_inj.mp h
theorem wn_tn {n : Nat} (h : n < 2 ^ 64) : (lN n).toBitVec.toNat = n := by rw [wn_tb, BitVec.toNat_ofNat, Nat.mod_eq_of_lt h]
theorem wn_cu : ∀ k, k < 64 → ((nI k).toInt64.toUInt64 &&& Int64.toUInt64 63) = UInt64.ofNat k := by decide +kernel
theorem wn_shr {n k : Nat} (hn : n < 2 ^ 64) (hk : k < 64) : ((lN n).toUInt64 >>> ((nI k).toInt64.toUInt64 &&& Int64.toUInt64 63)).toInt64 = lN (n / 2 ^ k) := by
  rw [wn_cu k hk]
  apply wn_inj
  apply BitVec.eq_of_toNat_eq
  show ((lN n).toUInt64 >>> UInt64.ofNat k).toNat = (BitVec.ofNat 64 _).toNat
  have h1 : (UInt64.ofNat k).toNat = k := by
    show (BitVec.ofNat 64 k).toNat = k
    rw [BitVec.toNat_ofNat, Nat.mod_eq_of_lt (by omega)]
  have h2 : (lN n).toUInt64.toNat = n := wn_tn hn
  rw [UInt64.toNat_shiftRight, h1, h2, Nat.mod_eq_of_lt hk, Nat.shiftRight_eq_div_pow, BitVec.toNat_ofNat, Nat.mod_eq_of_lt (Nat.lt_of_le_of_lt (Nat.div_le_self _ _) hn)]
/-- '>>> 32' -/
theorem wn_shr32 {n : Nat} (hn : n < 18446744073709551616) : ((lN n).toUInt64 >>> ((32 : Int32).toInt64.toUInt64 &&& Int64.toUInt64 63)).toInt64 = lN (n / 4294967296) := wn_shr (k := 32) hn (by decide)
theorem wn_mask {n k : Nat} (hn : n < 2 ^ 64) (hk : k < 64) : lN n &&& lN (2 ^ k - 1) = lN (n % 2 ^ k) := by
  have hk2 : 2 ^ k < 2 ^ 64 := Nat.pow_lt_pow_right (by decide) hk
  apply wn_inj
  rw [Int64.toBitVec_and, wn_tb, wn_tb, wn_tb]
  apply BitVec.eq_of_toNat_eq
  rw [BitVec.toNat_and, BitVec.toNat_ofNat, BitVec.toNat_ofNat, BitVec.toNat_ofNat, Nat.mod_eq_of_lt hn, Nat.mod_eq_of_lt (show 2 ^ k - 1 < 2 ^ 64 by omega), Nat.and_two_pow_sub_one_eq_mod]
  exact (Nat.mod_eq_of_lt (Nat.lt_of_le_of_lt (Nat.mod_le _ _) hn)).symm
/-- powers of the base -/
def wn_p : Nat → Nat
  | 0 => 1
  | n + 1 => wn_p n * 4294967296
theorem wn_p_pos : ∀ n, 0 < wn_p n
  | 0 => Nat.one_pos
  | n + 1 => Nat.mul_pos (wn_p_pos n) (by decide)
theorem wn_p_add (m : Nat) : ∀ n, wn_p (m + n) = wn_p m * wn_p n
  | 0 => (Nat.mul_one _).symm
  | n + 1 => by
    show wn_p (m + n) * _ = wn_p m * (wn_p n * _)
    rw [wn_p_add m n, Nat.mul_assoc]
/-- the value of n digits -/
def wn_v (g : Nat → Nat) : Nat → Nat
  | 0 => 0
  | n + 1 => wn_v g n + g n * wn_p n
abbrev wn_d (f : Nat → Int32) : Nat → Nat := fun i => wn_w (f i)
theorem wn_v_congr {g h : Nat → Nat} : ∀ n, (∀ i, i < n → g i = h i) → wn_v g n = wn_v h n
  | 0, _ => rfl
  | n + 1, e => by
    show wn_v g n + g n * _ = wn_v h n + h n * _
    rw [wn_v_congr n (fun i hi => e i (by omega)), e n (by omega)]
theorem wn_v_lt {g : Nat → Nat} (h : ∀ i, g i < 4294967296) : ∀ n, wn_v g n < wn_p n
  | 0 => Nat.one_pos
  | n + 1 => by
    have h1 := wn_v_lt h n
    have h2 : (g n + 1) * wn_p n ≤ 4294967296 * wn_p n := Nat.mul_le_mul_right _ (h n)
    rw [Nat.add_mul, Nat.one_mul] at h2
    show wn_v g n + g n * wn_p n < wn_p n * 4294967296
    omega
theorem wn_v_split (g : Nat → Nat) (m : Nat) : ∀ n, wn_v g (m + n) = wn_v g m + wn_p m * wn_v (fun i => g (m + i)) n
  | 0 => by simp [wn_v]
  | n + 1 => by
    show wn_v g (m + n) + g (m + n) * wn_p (m + n) = _ + wn_p m * (wn_v (fun i => g (m + i)) n + g (m + n) * wn_p n)
    rw [wn_v_split g m n, wn_p_add, Nat.mul_add, Nat.add_assoc, ← Nat.mul_assoc, ← Nat.mul_assoc, Nat.mul_comm (g (m + n)) (wn_p m)]
theorem wn_v_add (g h : Nat → Nat) : ∀ n, wn_v (fun i => g i + h i) n = wn_v g n + wn_v h n
  | 0 => rfl
  | n + 1 => by
    show wn_v (fun i => g i + h i) n + (g n + h n) * wn_p n = (wn_v g n + g n * wn_p n) + (wn_v h n + h n * wn_p n)
    rw [wn_v_add g h n, Nat.add_mul]
    omega
theorem wn_v_mul (w : Nat) (g : Nat → Nat) : ∀ n, wn_v (fun i => w * g i) n = w * wn_v g n
  | 0 => rfl
  | n + 1 => by
    show wn_v (fun i => w * g i) n + (w * g n) * wn_p n = w * (wn_v g n + g n * wn_p n)
    rw [wn_v_mul w g n, Nat.mul_add, Nat.mul_assoc]
/-- digits below the base are known from the value -/
theorem wn_v_inj {g h : Nat → Nat} (hg : ∀ i, g i < 4294967296) (hh : ∀ i, h i < 4294967296) : ∀ n, wn_v g n = wn_v h n → ∀ i, i < n → g i = h i
  | 0, _, i, hi => absurd hi (Nat.not_lt_zero i)
  | n + 1, e, i, hi => by
    have e1 : wn_v g n + g n * wn_p n = wn_v h n + h n * wn_p n := e
    have l1 := wn_v_lt hg n
    have l2 := wn_v_lt hh n
    have hp := wn_p_pos n
    have q1 : (wn_v g n + g n * wn_p n) / wn_p n = g n := by rw [Nat.add_mul_div_right _ _ hp, Nat.div_eq_of_lt l1, Nat.zero_add]
    have q2 : (wn_v h n + h n * wn_p n) / wn_p n = h n := by rw [Nat.add_mul_div_right _ _ hp, Nat.div_eq_of_lt l2, Nat.zero_add]
    have q3 : g n = h n := by rw [← q1, ← q2, e1]
    rcases Nat.lt_or_ge i n with h1 | h1
    · exact wn_v_inj hg hh n (by rw [q3] at e1; omega) i h1
    · rw [show i = n by omega]; exact q3
theorem wn_v_injI {f k : Nat → Int32} (n : Nat) (h : wn_v (wn_d f) n = wn_v (wn_d k) n) (i : Nat) (hi : i < n) : f i = k i := wn_w_inj (wn_v_inj (fun i => wn_w_lt (f i)) (fun i => wn_w_lt (k i)) n h i hi)
/-- the carries of a row of sums g -/
def wn_c (g : Nat → Nat) : Nat → Nat
  | 0 => 0
  | i + 1 => (wn_c g i + g i) / 4294967296
def wn_cw (g : Nat → Nat) (i : Nat) : Int32 := nI (wn_c g i + g i)
theorem wn_step (t p : Nat) : (t % 4294967296) * p + (t / 4294967296) * (p * 4294967296) = t * p := by
  have h := Nat.mod_add_div t 4294967296
  have h2 : (t / 4294967296) * (p * 4294967296) = (4294967296 * (t / 4294967296)) * p := by rw [Nat.mul_comm p, ← Nat.mul_assoc, Nat.mul_comm (t / 4294967296)]
  rw [h2, ← Nat.add_mul, h]
theorem wn_c_v (g : Nat → Nat) : ∀ n, wn_v (wn_d (wn_cw g)) n + wn_c g n * wn_p n = wn_v g n
  | 0 => by simp [wn_v, wn_c]
  | n + 1 => by
    have ih := wn_c_v g n
    have h1 : wn_w (wn_cw g n) = (wn_c g n + g n) % 4294967296 := wn_w_nI _
    have h2 := wn_step (wn_c g n + g n) (wn_p n)
    rw [Nat.add_mul] at h2
    show (wn_v (wn_d (wn_cw g)) n + wn_w (wn_cw g n) * wn_p n) + ((wn_c g n + g n) / 4294967296) * (wn_p n * 4294967296) = wn_v g n + g n * wn_p n
    rw [h1]
    omega
theorem wn_c_lt {g : Nat → Nat} (h : ∀ i, g i ≤ 18446744069414584320) : ∀ n, wn_c g n < 4294967296
  | 0 => (show 0 < 4294967296 by decide)
  | n + 1 => by
    have h1 := wn_c_lt h n
    have h2 := h n
    show (wn_c g n + g n) / 4294967296 < 4294967296
    omega
theorem wn_c_le1 {g : Nat → Nat} (h : ∀ i, g i ≤ 8589934590) : ∀ n, wn_c g n ≤ 1
  | 0 => Nat.zero_le 1
  | n + 1 => by
    have h1 := wn_c_le1 h n
    have h2 := h n
    show (wn_c g n + g n) / 4294967296 ≤ 1
    omega
theorem wn_c_congr {g h : Nat → Nat} : ∀ n, (∀ i, i < n → g i = h i) → wn_c g n = wn_c h n
  | 0, _ => rfl
  | n + 1, e => by
    show (wn_c g n + g n) / _ = (wn_c h n + h n) / _
    rw [wn_c_congr n (fun i hi => e i (by omega)), e n (by omega)]
theorem wn_cw_congr {g h : Nat → Nat} {n : Nat} (e : ∀ i, i < n → g i = h i) {i : Nat} (hi : i < n) : wn_cw g i = wn_cw h i := by
  show nI (wn_c g i + g i) = nI (wn_c h i + h i)
  rw [wn_c_congr i (fun j hj => e j (by omega)), e i hi]
/-- sums -/
abbrev wn_gA (x y : Nat → Int32) : Nat → Nat := fun i => wn_w (x i) + wn_w (y i)
theorem wn_gA_le (x y : Nat → Int32) (i : Nat) : wn_gA x y i ≤ 8589934590 := by
  have h1 := wn_w_lt (x i)
  have h2 := wn_w_lt (y i)
  show wn_w (x i) + wn_w (y i) ≤ _
  omega
theorem wn_gA_v (x y : Nat → Int32) (n : Nat) : wn_v (wn_gA x y) n = wn_v (wn_d x) n + wn_v (wn_d y) n := wn_v_add _ _ n
/-- a word times a row, added to a row -/
abbrev wn_gM (w : Nat) (y : Nat → Int32) : Nat → Nat := fun i => w * wn_w (y i)
abbrev wn_gT (w : Nat) (y z : Nat → Int32) : Nat → Nat := fun i => w * wn_w (y i) + wn_w (z i)
theorem wn_mul_le {w y : Nat} (hw : w < 4294967296) (hy : y < 4294967296) : w * y ≤ 18446744065119617025 := by
  have h := Nat.mul_le_mul (show w ≤ 4294967295 by omega) (show y ≤ 4294967295 by omega)
  exact h
theorem wn_gM_le {w : Nat} (hw : w < 4294967296) (y : Nat → Int32) (i : Nat) : wn_gM w y i ≤ 18446744069414584320 := by
  have h := wn_mul_le hw (wn_w_lt (y i))
  show w * wn_w (y i) ≤ _
  omega
theorem wn_gT_le {w : Nat} (hw : w < 4294967296) (y z : Nat → Int32) (i : Nat) : wn_gT w y z i ≤ 18446744069414584320 := by
  have h := wn_mul_le hw (wn_w_lt (y i))
  have h2 := wn_w_lt (z i)
  show w * wn_w (y i) + wn_w (z i) ≤ _
  omega
theorem wn_gM_v (w : Nat) (y : Nat → Int32) (n : Nat) : wn_v (wn_gM w y) n = w * wn_v (wn_d y) n := wn_v_mul w _ n
theorem wn_gT_v (w : Nat) (y z : Nat → Int32) (n : Nat) : wn_v (wn_gT w y z) n = w * wn_v (wn_d y) n + wn_v (wn_d z) n := by
  rw [show wn_gT w y z = fun i => wn_gM w y i + wn_d z i from rfl, wn_v_add, wn_gM_v]
/-- one row of a product: the words from o on get w times y added, the carry goes behind -/
theorem wn_row (w : Nat) (y z z' : Nat → Int32) (o n : Nat) (h1 : ∀ j, j < o → z' j = z j) (h2 : ∀ j, j < n → z' (o + j) = wn_cw (wn_gT w y (fun j => z (o + j))) j) :
    wn_v (wn_d z') (o + n) + wn_c (wn_gT w y (fun j => z (o + j))) n * wn_p (o + n) = wn_v (wn_d z) (o + n) + wn_p o * (w * wn_v (wn_d y) n) := by
  have e1 := wn_v_split (wn_d z') o n
  have e2 := wn_v_split (wn_d z) o n
  have e3 := wn_c_v (wn_gT w y (fun j => z (o + j))) n
  rw [wn_gT_v] at e3
  have e4 : wn_v (fun i => wn_d z' (o + i)) n = wn_v (wn_d (wn_cw (wn_gT w y (fun j => z (o + j))))) n := wn_v_congr n (fun i hi => by show wn_w (z' (o + i)) = wn_w _; rw [h2 i hi])
  have e5 : wn_v (wn_d z') o = wn_v (wn_d z) o := wn_v_congr o (fun i hi => by show wn_w (z' i) = wn_w _; rw [h1 i hi])
  rw [e1, e2, e4, e5, wn_p_add, Nat.add_assoc, Nat.add_assoc]
  congr 1
  have e6 : wn_c (wn_gT w y (fun j => z (o + j))) n * (wn_p o * wn_p n) = wn_p o * (wn_c (wn_gT w y (fun j => z (o + j))) n * wn_p n) := by rw [Nat.mul_left_comm]
  rw [e6, ← Nat.mul_add, ← Nat.mul_add, e3, Nat.add_comm]
/-- differences: a borrow is 0 or -1 -/
def wn_b (x y : Nat → Int32) : Nat → Int
  | 0 => 0
  | i + 1 => (wn_b x y i + ((wn_w (x i) : Int) - wn_w (y i))) / 4294967296
def wn_bw (x y : Nat → Int32) (i : Nat) : Int32 := Int32.ofInt (wn_b x y i + ((wn_w (x i) : Int) - wn_w (y i)))
theorem wn_b_in (x y : Nat → Int32) : ∀ n, wn_b x y n = 0 ∨ wn_b x y n = -1
  | 0 => Or.inl rfl
  | n + 1 => by
    have h1 := wn_b_in x y n
    have h2 := wn_w_lt (x n)
    have h3 := wn_w_lt (y n)
    show (wn_b x y n + ((wn_w (x n) : Int) - wn_w (y n))) / 4294967296 = 0 ∨ (wn_b x y n + ((wn_w (x n) : Int) - wn_w (y n))) / 4294967296 = -1
    omega
theorem wn_w_ofInt (k : Int) : (wn_w (Int32.ofInt k) : Int) = k % 4294967296 := by
  show ((BitVec.ofInt 32 k).toNat : Int) = _
  rw [BitVec.toNat_ofInt, Int.toNat_of_nonneg (Int.emod_nonneg _ (by decide))]
  rfl
theorem wn_stepZ (t p : Int) : (t % 4294967296) * p + (t / 4294967296) * (p * 4294967296) = t * p := by
  have h := Int.emod_add_mul_ediv t 4294967296
  have h2 : (t / 4294967296) * (p * 4294967296) = (4294967296 * (t / 4294967296)) * p := by rw [Int.mul_comm p, ← Int.mul_assoc, Int.mul_comm (t / 4294967296)]
  rw [h2, ← Int.add_mul, h]
theorem wn_b_v (x y : Nat → Int32) : ∀ n, (wn_v (wn_d (wn_bw x y)) n : Int) + wn_b x y n * (wn_p n : Int) = (wn_v (wn_d x) n : Int) - wn_v (wn_d y) n
  | 0 => by simp [wn_v, wn_b]
  | n + 1 => by
    have ih := wn_b_v x y n
    have h1 : (wn_w (wn_bw x y n) : Int) = (wn_b x y n + ((wn_w (x n) : Int) - wn_w (y n))) % 4294967296 := wn_w_ofInt _
    have h2 := wn_stepZ (wn_b x y n + ((wn_w (x n) : Int) - wn_w (y n))) (wn_p n : Int)
    rw [Int.add_mul, Int.sub_mul] at h2
    have c1 : (wn_v (wn_d (wn_bw x y)) (n + 1) : Int) = (wn_v (wn_d (wn_bw x y)) n : Int) + (wn_w (wn_bw x y n) : Int) * (wn_p n : Int) := by
      rw [show wn_v (wn_d (wn_bw x y)) (n + 1) = wn_v (wn_d (wn_bw x y)) n + wn_w (wn_bw x y n) * wn_p n from rfl, Int.natCast_add, Int.natCast_mul]
    have c2 : (wn_v (wn_d x) (n + 1) : Int) = (wn_v (wn_d x) n : Int) + (wn_w (x n) : Int) * (wn_p n : Int) := by
      rw [show wn_v (wn_d x) (n + 1) = wn_v (wn_d x) n + wn_w (x n) * wn_p n from rfl, Int.natCast_add, Int.natCast_mul]
    have c3 : (wn_v (wn_d y) (n + 1) : Int) = (wn_v (wn_d y) n : Int) + (wn_w (y n) : Int) * (wn_p n : Int) := by
      rw [show wn_v (wn_d y) (n + 1) = wn_v (wn_d y) n + wn_w (y n) * wn_p n from rfl, Int.natCast_add, Int.natCast_mul]
    have c4 : (wn_p (n + 1) : Int) = (wn_p n : Int) * 4294967296 := by rw [show wn_p (n + 1) = wn_p n * 4294967296 from rfl, Int.natCast_mul]; rfl
    have c5 : wn_b x y (n + 1) = (wn_b x y n + ((wn_w (x n) : Int) - wn_w (y n))) / 4294967296 := rfl
    rw [c1, c2, c3, c4, c5, h1]
    omega
/-- longs that may be negative -/
def wn_l (k : Int) : Int64 := Int64.ofInt k
theorem wn_l0 : (0 : Int64) = wn_l 0 := rfl
theorem wn_lsub (a b : Nat) : lN a - lN b = wn_l ((a : Int) - b) := by
  show Int64.ofNat a - Int64.ofNat b = Int64.ofInt _
  rw [Int64.ofInt_sub]
  rfl
theorem wn_ladd (a b : Int) : wn_l a + wn_l b = wn_l (a + b) := by
  show Int64.ofInt a + Int64.ofInt b = Int64.ofInt _
  rw [Int64.ofInt_add]
theorem wn_li (k : Int) : (wn_l k).toInt32 = Int32.ofInt k := by
  first
  | exact Int64.toInt32_ofInt k
  | simp [wn_l]
theorem wn_lsh {k : Int} (h1 : -9223372036854775808 ≤ k) (h2 : k < 9223372036854775808) : wn_l k >>> ((32 : Int32).toInt64 &&& 63) = wn_l (k / 4294967296) := by
  have e0 : (wn_l k).toInt = k := by
    show (Int64.ofInt k).toInt = k
    rw [Int64.toInt_ofInt]
    have hs : ((Int64.size : Nat) : Int) = 18446744073709551616 := rfl
    exact Int.bmod_eq_of_le (by omega) (by omega)
  have e1 : (wn_l (k / 4294967296)).toInt = k / 4294967296 := by
    show (Int64.ofInt _).toInt = _
    rw [Int64.toInt_ofInt]
    have hs : ((Int64.size : Nat) : Int) = 18446744073709551616 := rfl
    exact Int.bmod_eq_of_le (by omega) (by omega)
  apply Int64.toInt_inj.mp
  rw [e1]
  have e2 : (wn_l k >>> ((32 : Int32).toInt64 &&& 63)).toInt = (wn_l k).toInt >>> 32 := by
    show ((wn_l k).toBitVec.sshiftRight (((32 : Int32).toInt64 &&& 63).toBitVec.smod 64).toNat).toInt = _
    have e3 : (((32 : Int32).toInt64 &&& 63).toBitVec.smod 64).toNat = 32 := by decide
    rw [e3, BitVec.toInt_sshiftRight]
    rfl
  rw [e2, e0, Int.shiftRight_eq_div_pow]
  rfl
/-- one more, one less: is the carry still going? -/
def wn_ig (x : Nat → Int32) : Nat → Int32
  | 0 => 1
  | i + 1 => if x i + wn_ig x i = 0 then wn_ig x i else 0
def wn_iw (x : Nat → Int32) (i : Nat) : Int32 := x i + wn_ig x i
def wn_dg (x : Nat → Int32) : Nat → Int32
  | 0 => 1
  | i + 1 => if x i - wn_dg x i = -1 then wn_dg x i else 0
def wn_dw (x : Nat → Int32) (i : Nat) : Int32 := x i - wn_dg x i
theorem wn_ig_0 (x : Nat → Int32) {i : Nat} (h : wn_ig x i = 0) : ∀ k, wn_ig x (i + k) = 0
  | 0 => h
  | k + 1 => by
    show (if x (i + k) + wn_ig x (i + k) = 0 then wn_ig x (i + k) else 0) = 0
    rw [wn_ig_0 x h k]
    split <;> rfl
theorem wn_dg_0 (x : Nat → Int32) {i : Nat} (h : wn_dg x i = 0) : ∀ k, wn_dg x (i + k) = 0
  | 0 => h
  | k + 1 => by
    show (if x (i + k) - wn_dg x (i + k) = -1 then wn_dg x (i + k) else 0) = 0
    rw [wn_dg_0 x h k]
    split <;> rfl
theorem wn_ig_in (x : Nat → Int32) : ∀ i, wn_ig x i = 0 ∨ wn_ig x i = 1
  | 0 => Or.inr rfl
  | i + 1 => by
    show (if x i + wn_ig x i = 0 then wn_ig x i else 0) = 0 ∨ (if x i + wn_ig x i = 0 then wn_ig x i else 0) = 1
    split
    · exact wn_ig_in x i
    · exact Or.inl rfl
/-- once it has stopped, what is filled below i is all -/
theorem wn_i_stop (x : Nat → Int32) {i n : Nat} (hi : i ≤ n) (h : wn_ig x i = 0) : wr_f (wn_iw x) x i = wr_f (wn_iw x) x n := by
  funext j
  unfold wr_f
  by_cases h1 : j < i
  · rw [if_pos h1, if_pos (by omega)]
  · rw [if_neg h1]
    by_cases h2 : j < n
    · rw [if_pos h2]
      have h3 := wn_ig_0 x h (j - i)
      rw [show i + (j - i) = j by omega] at h3
      show x j = x j + wn_ig x j
      rw [h3, Int32.add_zero]
    · rw [if_neg h2]
theorem wn_d_stop (x : Nat → Int32) {i n : Nat} (hi : i ≤ n) (h : wn_dg x i = 0) : wr_f (wn_dw x) x i = wr_f (wn_dw x) x n := by
  funext j
  unfold wr_f
  by_cases h1 : j < i
  · rw [if_pos h1, if_pos (by omega)]
  · rw [if_neg h1]
    by_cases h2 : j < n
    · rw [if_pos h2]
      have h3 := wn_dg_0 x h (j - i)
      rw [show i + (j - i) = j by omega] at h3
      show x j = x j - wn_dg x j
      rw [h3, Int32.sub_zero]
    · rw [if_neg h2]
/-- less undoes more -/
theorem wn_id (x : Nat → Int32) : ∀ i, wn_dg (wn_iw x) i = wn_ig x i
  | 0 => rfl
  | i + 1 => by
    show (if wn_iw x i - wn_dg (wn_iw x) i = -1 then wn_dg (wn_iw x) i else 0) = (if x i + wn_ig x i = 0 then wn_ig x i else 0)
    rw [wn_id x i]
    have e1 : wn_iw x i - wn_ig x i = x i := Int32.add_sub_cancel _ _
    rw [e1]
    rcases wn_ig_in x i with h | h
    · rw [h]
      split <;> split <;> rfl
    · rw [h]
      have e2 : x i = -1 ↔ x i + 1 = 0 := by
        constructor
        · intro q; rw [q]; rfl
        · intro q
          have : x i + 1 - 1 = 0 - 1 := by rw [q]
          rw [Int32.add_sub_cancel] at this
          rw [this]; rfl
      by_cases q : x i = -1
      · rw [if_pos q, if_pos (e2.mp q)]
      · rw [if_neg q, if_neg (fun z => q (e2.mpr z))]
theorem wn_idw (x : Nat → Int32) (i : Nat) : wn_dw (wn_iw x) i = x i := by
  show wn_iw x i - wn_dg (wn_iw x) i = x i
  rw [wn_id]
  exact Int32.add_sub_cancel _ _
/-- shifts: the word below, the word above -/
def wn_su (x k : Int32) : Int32 := x <<< (k &&& 31)
def wn_ur (x k : Int32) : Int32 := (x.toUInt32 >>> (k.toUInt32 &&& Int32.toUInt32 31)).toInt32
def wn_pv (c : Int32) (x : Nat → Int32) : Nat → Int32
  | 0 => c
  | i + 1 => x i
def wn_nx (n : Nat) (c : Int32) (x : Nat → Int32) (i : Nat) : Int32 := if i < n then x i else c
def wn_uw (k c : Int32) (x : Nat → Int32) (i : Nat) : Int32 := wn_su (x i) k ||| wn_ur (wn_pv c x i) (-k)
def wn_ow (k c : Int32) (x : Nat → Int32) (n i : Nat) : Int32 := wn_ur (x i) k ||| wn_su (wn_nx n c x (i + 1)) (-k)
/-- filled from i on, below n -/
def wr_h (w z : Nat → Int32) (n i : Nat) : Nat → Int32 := fun j => if i ≤ j ∧ j < n then w j else z j
theorem wr_h0 (w z : Nat → Int32) (n : Nat) : wr_h w z n n = z := by
  funext j
  unfold wr_h
  rw [if_neg (by omega)]
theorem wr_hu (w z : Nat → Int32) {n i : Nat} (hi : i < n) : upd (wr_h w z n (i + 1)) i (w i) = wr_h w z n i := by
  funext j
  show (if j = i then w i else if i + 1 ≤ j ∧ j < n then w j else z j) = if i ≤ j ∧ j < n then w j else z j
  by_cases h : j = i
  · subst h
    rw [if_pos rfl, if_pos (by omega)]
  · rw [if_neg h]
    by_cases h2 : i + 1 ≤ j ∧ j < n
    · rw [if_pos h2, if_pos (by omega)]
    · rw [if_neg h2, if_neg (by omega)]
theorem wr_hi (w z : Nat → Int32) {n i j : Nat} (h : j < i) : wr_h w z n i j = z j := by unfold wr_h; rw [if_neg (by omega)]
theorem wr_hz (w z : Nat → Int32) (n : Nat) : wr_h w z n 0 = wr_f w z n := by
  funext j
  unfold wr_h wr_f
  by_cases h : j < n
  · rw [if_pos ⟨Nat.zero_le _, h⟩, if_pos h]
  · rw [if_neg (by omega), if_neg h]
theorem wn_inc (i : Nat) : nI i + Int32.ofInt 1 = nI (i + 1) := (nI_succ i).symm
theorem wn_dec (i : Nat) : nI (i + 1) + Int32.ofInt (-1) = nI i := pk_m1 i
theorem wn_dec1 (i : Nat) : nI i + Int32.ofInt (-1) = nI i - 1 := (Int32.sub_eq_add_neg (nI i) 1).symm
def wn_1w (c : Int32) (x : Nat → Int32) (i : Nat) : Int32 := wn_su (x i) 1 ||| wn_ur (wn_pv c x i) 31
theorem wn_toInt (x : Int32) : x.toInt = if 2 * wn_w x < 4294967296 then (wn_w x : Int) else (wn_w x : Int) - 4294967296 := by
  show x.toBitVec.toInt = _
  rw [BitVec.toInt_eq_toNat_cond]
  rfl
theorem wn_flip (x : Int32) : (x + (-2147483648)).toInt = (wn_w x : Int) - 2147483648 := by
  rw [Int32.toInt_add, wn_toInt x]
  have h0 : (-2147483648 : Int32).toInt = -2147483648 := by decide
  rw [h0]
  have h1 := wn_w_lt x
  split
  · rw [Int.bmod_eq_of_le (by omega) (by omega)]
    omega
  · rw [Int.bmod_def]
    have h2 : ((2 ^ 32 : Nat) : Int) = 4294967296 := rfl
    rw [h2]
    split <;> omega
/-- the flipped order is the order of the words -/
theorem wn_ult (x y : Int32) : x + (-2147483648) < y + (-2147483648) ↔ wn_w x < wn_w y := by
  rw [Int32.lt_iff_toInt_lt, wn_flip, wn_flip]
  omega
theorem wn_gt {g h : Nat → Nat} (hg : ∀ i, g i < 4294967296) (hh : ∀ i, h i < 4294967296) {i : Nat} (e : g i < h i) : wn_v g (i + 1) < wn_v h (i + 1) := by
  have h1 := wn_v_lt hg i
  have h2 : (g i + 1) * wn_p i ≤ h i * wn_p i := Nat.mul_le_mul_right _ e
  rw [Nat.add_mul, Nat.one_mul] at h2
  show wn_v g i + g i * wn_p i < wn_v h i + h i * wn_p i
  omega
end
section
/-! PURE, second part: products, squares, shifts as values -/
set_option maxRecDepth 100000
abbrev wn_T (w : Nat) (y Z : Nat → Int32) (o : Nat) : Nat → Nat := wn_gT w y (fun j => Z (o + j))
theorem wn_rowT (w : Nat) (y Z : Nat → Int32) (o n : Nat) : wn_v (wn_d (wr_g (wn_cw (wn_T w y Z o)) Z o n)) (o + n) + wn_c (wn_T w y Z o) n * wn_p (o + n) = wn_v (wn_d Z) (o + n) + wn_p o * (w * wn_v (wn_d y) n) :=
  wn_row w y Z (wr_g (wn_cw (wn_T w y Z o)) Z o n) o n (fun j hj => wr_go _ _ (Or.inl hj)) (fun j hj => wr_gl _ _ hj)
/-- a row of a product with its carry stored behind it -/
theorem wn_mul_step {w : Nat} (hw : w < 4294967296) (y Z : Nat → Int32) (o n : Nat) :
    wn_v (wn_d (upd (wr_g (wn_cw (wn_T w y Z o)) Z o n) (o + n) (nI (wn_c (wn_T w y Z o) n)))) (o + n + 1) = wn_v (wn_d Z) (o + n) + wn_p o * (w * wn_v (wn_d y) n) := by
  have h1 := wn_rowT w y Z o n
  have hc : wn_c (wn_T w y Z o) n < 4294967296 := wn_c_lt (wn_gT_le hw y _) n
  have h2 : wn_v (wn_d (upd (wr_g (wn_cw (wn_T w y Z o)) Z o n) (o + n) (nI (wn_c (wn_T w y Z o) n)))) (o + n) = wn_v (wn_d (wr_g (wn_cw (wn_T w y Z o)) Z o n)) (o + n) := by
    apply wn_v_congr
    intro i hi
    show wn_w (upd _ _ _ i) = _
    rw [pk_un (by omega)]
  have h3 : wn_d (upd (wr_g (wn_cw (wn_T w y Z o)) Z o n) (o + n) (nI (wn_c (wn_T w y Z o) n))) (o + n) = wn_c (wn_T w y Z o) n := by
    show wn_w (upd _ _ _ (o + n)) = _
    rw [pk_us, wn_w_lt' hc]
  show wn_v _ (o + n) + _ * wn_p (o + n) = _
  rw [h2, h3]
  exact h1
/-- the same with a further carry zc and a word there -/
theorem wn_acc_step {w zc : Nat} (y Z : Nat → Int32) (o n : Nat) {V : Nat} (hz : wn_v (wn_d Z) (o + n) + zc * wn_p (o + n) = V) :
    let t := zc + wn_c (wn_T w y Z o) n + wn_w (Z (o + n))
    wn_v (wn_d (upd (wr_g (wn_cw (wn_T w y Z o)) Z o n) (o + n) (nI t))) (o + n + 1) + (t / 4294967296) * wn_p (o + n + 1) = V + wn_p o * (w * wn_v (wn_d y) n) + wn_w (Z (o + n)) * wn_p (o + n) := by
  intro t
  have h1 := wn_rowT w y Z o n
  have h2 : wn_v (wn_d (upd (wr_g (wn_cw (wn_T w y Z o)) Z o n) (o + n) (nI t))) (o + n) = wn_v (wn_d (wr_g (wn_cw (wn_T w y Z o)) Z o n)) (o + n) := by
    apply wn_v_congr
    intro i hi
    show wn_w (upd _ _ _ i) = _
    rw [pk_un (by omega)]
  have h3 : wn_d (upd (wr_g (wn_cw (wn_T w y Z o)) Z o n) (o + n) (nI t)) (o + n) = t % 4294967296 := by
    show wn_w (upd _ _ _ (o + n)) = _
    rw [pk_us, wn_w_nI]
  have h4 := wn_step t (wn_p (o + n))
  have h5 : t * wn_p (o + n) = zc * wn_p (o + n) + wn_c (wn_T w y Z o) n * wn_p (o + n) + wn_w (Z (o + n)) * wn_p (o + n) := by
    show (zc + wn_c (wn_T w y Z o) n + wn_w (Z (o + n))) * wn_p (o + n) = _
    rw [Nat.add_mul, Nat.add_mul]
  show (wn_v _ (o + n) + _ * wn_p (o + n)) + (t / 4294967296) * (wn_p (o + n) * 4294967296) = _
  rw [h2, h3]
  omega
/-- the value of one digit more -/
theorem wn_v_succ (g : Nat → Nat) (n : Nat) : wn_v g (n + 1) = wn_v g n + g n * wn_p n := rfl
theorem wn_mul_next {X V w p : Nat} : X * V + p * (w * V) = (X + w * p) * V := by
  rw [Nat.add_mul, Nat.mul_comm w p, Nat.mul_assoc]
theorem wn_v_lin (g : Nat → Nat) : wn_v g 1 = g 0 := by
  show 0 + g 0 * 1 = _
  omega
/-! squares: the diagonal halved, the mixed products, all doubled -/
/-- the square of the word j, of the words below n -/
def wn_q (x : Nat → Int32) (n j : Nat) : Nat := if j < n then wn_w (x j) * wn_w (x j) else 0
/-- the words of the halved diagonal -/
def wn_h (x : Nat → Int32) (n q : Nat) : Int32 := if q % 2 = 0 then nI (wn_q x n (q / 2) / 2) else wn_su (nI (wn_q x n (q / 2 + 1))) 31 ||| nI (wn_q x n (q / 2) / 8589934592)
theorem wn_q_le (x : Nat → Int32) (n j : Nat) : wn_q x n j ≤ 18446744065119617025 := by
  unfold wn_q
  split
  · exact wn_mul_le (wn_w_lt _) (wn_w_lt _)
  · exact Nat.zero_le _
theorem wn_su31 (m : Nat) : wn_w (wn_su (nI m) 31) = (m % 2) * 2147483648 := by
  have h := pk_shl (nI m) ((31 : Int32) &&& 31) 31 (by decide)
  show ((nI m) <<< ((31 : Int32) &&& 31)).toBitVec.toNat = _
  rw [h]
  have h2 : (nI m).toBitVec.toNat = m % 4294967296 := wn_w_nI m
  rw [h2]
  omega
theorem wn_or_hi (a b : Int32) (c : Nat) (ha : wn_w a = c * 2147483648) (hb : wn_w b < 2147483648) : wn_w (a ||| b) = c * 2147483648 + wn_w b := by
  show (a ||| b).toBitVec.toNat = _
  rw [Int32.toBitVec_or, BitVec.toNat_or]
  have h1 : a.toBitVec.toNat = c * 2 ^ 31 := ha
  have h2 : b.toBitVec.toNat < 2 ^ 31 := hb
  rw [h1, Nat.mul_comm c, Nat.two_pow_add_eq_or_of_lt h2 c |>.symm]
  show 2 ^ 31 * c + wn_w b = _
  omega
theorem wn_h_even (x : Nat → Int32) (n i : Nat) : wn_w (wn_h x n (2 * i)) = wn_q x n i / 2 % 4294967296 := by
  unfold wn_h
  rw [if_pos (by omega), wn_w_nI, show 2 * i / 2 = i by omega]
theorem wn_h_odd (x : Nat → Int32) (n i : Nat) : wn_w (wn_h x n (2 * i + 1)) = (wn_q x n (i + 1) % 2) * 2147483648 + wn_q x n i / 8589934592 := by
  unfold wn_h
  rw [if_neg (by omega), show (2 * i + 1) / 2 = i by omega]
  have h1 := wn_q_le x n i
  have h2 : wn_w (nI (wn_q x n i / 8589934592)) = wn_q x n i / 8589934592 := wn_w_lt' (by omega)
  rw [wn_or_hi _ _ _ (wn_su31 _) (by rw [h2]; omega), h2]
/-- the sum of the squares of the words below i, each at its place -/
def wn_Q (x : Nat → Int32) : Nat → Nat
  | 0 => 0
  | i + 1 => wn_Q x i + (wn_w (x i) * wn_w (x i)) * wn_p (i + i)
/-- the sum of the mixed products of the words below i -/
def wn_X (x : Nat → Int32) : Nat → Nat
  | 0 => 0
  | i + 1 => wn_X x i + wn_w (x i) * wn_v (wn_d x) i * wn_p i
theorem wn_h_val (x : Nat → Int32) (n : Nat) : ∀ i, i ≤ n → 2 * wn_v (wn_d (wn_h x n)) (i + i) + wn_q x n 0 % 2 = wn_Q x i + (wn_q x n i % 2) * wn_p (i + i)
  | 0, _ => by
    show 0 + _ = 0 + _ * 1
    omega
  | i + 1, hi => by
    have ih := wn_h_val x n i (by omega)
    have h1 := wn_h_even x n i
    have h2 := wn_h_odd x n i
    have h3 : wn_q x n i = wn_w (x i) * wn_w (x i) := if_pos (by omega)
    have e1 : i + 1 + (i + 1) = (i + i + 1) + 1 := by omega
    have e2 : wn_v (wn_d (wn_h x n)) (i + 1 + (i + 1)) = wn_v (wn_d (wn_h x n)) (i + i) + wn_w (wn_h x n (i + i)) * wn_p (i + i) + wn_w (wn_h x n (i + i + 1)) * (wn_p (i + i) * 4294967296) := by rw [e1]; rfl
    have e3 : wn_p (i + 1 + (i + 1)) = wn_p (i + i) * 4294967296 * 4294967296 := by rw [e1]; rfl
    rw [show 2 * i = i + i by omega] at h1 h2
    rw [e2, e3, h1, h2]
    show _ = (wn_Q x i + (wn_w (x i) * wn_w (x i)) * wn_p (i + i)) + _
    rw [← h3]
    have h4 := wn_q_le x n i
    generalize wn_q x n i = q at *
    generalize wn_q x n (i + 1) % 2 = r at *
    generalize wn_p (i + i) = P at *
    generalize wn_v (wn_d (wn_h x n)) (i + i) = V at *
    have hq : q = 2 * (q / 2 % 4294967296) + q % 2 + 2 * (q / 8589934592) * 4294967296 := by omega
    have g1 : (r * 2147483648 + q / 8589934592) * (P * 4294967296) = r * (P * 4294967296) * 2147483648 + q / 8589934592 * (P * 4294967296) := by
      rw [Nat.add_mul, Nat.mul_right_comm]
    have g2 : q * P = 2 * ((q / 2 % 4294967296) * P) + q % 2 * P + 2 * (q / 8589934592 * (P * 4294967296)) := by
      have g3 : q * P = (2 * (q / 2 % 4294967296) + q % 2 + 2 * (q / 8589934592) * 4294967296) * P := congrArg (· * P) hq
      rw [g3, Nat.add_mul, Nat.add_mul, Nat.mul_assoc 2, Nat.mul_assoc (2 * (q / 8589934592)), Nat.mul_comm 4294967296 P, Nat.mul_assoc 2]
    have g4 : r * (P * 4294967296 * 4294967296) = r * (P * 4294967296) * 4294967296 := (Nat.mul_assoc r (P * 4294967296) 4294967296).symm
    rw [g1, g4]
    omega
/-- a square is the diagonal and twice the mixed products -/
theorem wn_sq_split (x : Nat → Int32) : ∀ n, wn_v (wn_d x) n * wn_v (wn_d x) n = wn_Q x n + 2 * wn_X x n
  | 0 => rfl
  | n + 1 => by
    have ih := wn_sq_split x n
    show (wn_v (wn_d x) n + wn_w (x n) * wn_p n) * (wn_v (wn_d x) n + wn_w (x n) * wn_p n) = (wn_Q x n + (wn_w (x n) * wn_w (x n)) * wn_p (n + n)) + 2 * (wn_X x n + wn_w (x n) * wn_v (wn_d x) n * wn_p n)
    rw [wn_p_add]
    generalize wn_v (wn_d x) n = V at *
    generalize wn_w (x n) = a at *
    generalize wn_p n = P at *
    rw [Nat.add_mul, Nat.mul_add, Nat.mul_add, ih]
    have h1 : V * (a * P) = a * V * P := by rw [← Nat.mul_assoc, Nat.mul_comm V a]
    have h2 : a * P * V = a * V * P := by rw [Nat.mul_right_comm]
    have h3 : a * P * (a * P) = a * a * (P * P) := by rw [Nat.mul_assoc, Nat.mul_left_comm P a P, ← Nat.mul_assoc]
    rw [h1, h2, h3]
    omega
/-- one row of the mixed products: two words more are settled -/
theorem wn_sq_step {d : Nat} (x z0 Z : Nat → Int32) {i : Nat} (hi : 1 ≤ i) (hz : wn_v (wn_d Z) (i + i) + d * wn_p (i + i) = wn_v (wn_d z0) (i + i) + wn_X x i) (hZ : ∀ j, i + i ≤ j → Z j = z0 j) (t1 t2 : Nat)
    (ht1 : t1 = d + wn_c (wn_T (wn_w (x i)) x Z i) i + wn_w (z0 (i + i))) (ht2 : t2 = t1 / 4294967296 + wn_w (z0 (i + i + 1))) :
    wn_v (wn_d (upd (upd (wr_g (wn_cw (wn_T (wn_w (x i)) x Z i)) Z i i) (i + i) (nI t1)) (i + i + 1) (nI t2))) (i + i + 1 + 1) + (t2 / 4294967296) * wn_p (i + i + 1 + 1) = wn_v (wn_d z0) (i + i + 1 + 1) + wn_X x (i + 1) := by
  have h1 := wn_rowT (wn_w (x i)) x Z i i
  have h2 : wn_v (wn_d (upd (upd (wr_g (wn_cw (wn_T (wn_w (x i)) x Z i)) Z i i) (i + i) (nI t1)) (i + i + 1) (nI t2))) (i + i) = wn_v (wn_d (wr_g (wn_cw (wn_T (wn_w (x i)) x Z i)) Z i i)) (i + i) := by
    apply wn_v_congr
    intro j hj
    show wn_w (upd (upd _ _ _) _ _ j) = _
    rw [pk_un (by omega), pk_un (by omega)]
  have h3 : wn_w (upd (upd (wr_g (wn_cw (wn_T (wn_w (x i)) x Z i)) Z i i) (i + i) (nI t1)) (i + i + 1) (nI t2) (i + i)) = t1 % 4294967296 := by
    rw [pk_un (by omega), pk_us, wn_w_nI]
  have h4 : wn_w (upd (upd (wr_g (wn_cw (wn_T (wn_w (x i)) x Z i)) Z i i) (i + i) (nI t1)) (i + i + 1) (nI t2) (i + i + 1)) = t2 % 4294967296 := by
    rw [pk_us, wn_w_nI]
  show (wn_v _ (i + i) + wn_w _ * wn_p (i + i) + wn_w _ * (wn_p (i + i) * 4294967296)) + (t2 / 4294967296) * (wn_p (i + i) * 4294967296 * 4294967296) = (wn_v (wn_d z0) (i + i) + wn_w (z0 (i + i)) * wn_p (i + i) + wn_w (z0 (i + i + 1)) * (wn_p (i + i) * 4294967296)) + (wn_X x i + wn_w (x i) * wn_v (wn_d x) i * wn_p i)
  rw [h2, h3, h4]
  have h5 := wn_step t1 (wn_p (i + i))
  have h6 := wn_step t2 (wn_p (i + i) * 4294967296)
  have h7 : t1 * wn_p (i + i) = d * wn_p (i + i) + wn_c (wn_T (wn_w (x i)) x Z i) i * wn_p (i + i) + wn_w (z0 (i + i)) * wn_p (i + i) := by rw [ht1, Nat.add_mul, Nat.add_mul]
  have h8 : t2 * (wn_p (i + i) * 4294967296) = t1 / 4294967296 * (wn_p (i + i) * 4294967296) + wn_w (z0 (i + i + 1)) * (wn_p (i + i) * 4294967296) := by rw [ht2, Nat.add_mul]
  have h9 : wn_p i * (wn_w (x i) * wn_v (wn_d x) i) = wn_w (x i) * wn_v (wn_d x) i * wn_p i := Nat.mul_comm _ _
  omega
/-- up by one bit -/
theorem wn_ur31 (x : Int32) : wn_w (wn_ur x 31) = wn_w x / 2147483648 := pk_ushr x 31 31 (by decide)
theorem wn_su1 (x : Int32) : wn_w (wn_su x 1) = wn_w x * 2 % 4294967296 := pk_shl x ((1 : Int32) &&& 31) 1 (by decide)
theorem wn_or_lo (a b : Int32) (ha : wn_w a % 2 = 0) (hb : wn_w b < 2) : wn_w (a ||| b) = wn_w a + wn_w b := by
  show (a ||| b).toBitVec.toNat = _
  rw [Int32.toBitVec_or, BitVec.toNat_or]
  have h1 : a.toBitVec.toNat = 2 ^ 1 * (wn_w a / 2) := by show wn_w a = _; omega
  have h2 : b.toBitVec.toNat < 2 ^ 1 := hb
  rw [h1, Nat.two_pow_add_eq_or_of_lt h2 _ |>.symm]
  show 2 ^ 1 * (wn_w a / 2) + wn_w b = _
  omega
theorem wn_1w_w (c : Int32) (x : Nat → Int32) (i : Nat) : wn_w (wn_1w c x i) = wn_w (x i) * 2 % 4294967296 + wn_w (wn_pv c x i) / 2147483648 := by
  have h0 := wn_w_lt (wn_pv c x i)
  have h1 := wn_su1 (x i)
  have h2 := wn_ur31 (wn_pv c x i)
  show wn_w (wn_su (x i) 1 ||| wn_ur (wn_pv c x i) 31) = _
  rw [wn_or_lo _ _ (by rw [h1]; omega) (by rw [h2]; omega), h1, h2]
theorem wn_1w_v (c : Int32) (x : Nat → Int32) : ∀ n, wn_v (wn_d (wn_1w c x)) n + (wn_w (wn_pv c x n) / 2147483648) * wn_p n = 2 * wn_v (wn_d x) n + wn_w c / 2147483648
  | 0 => by
    show 0 + _ * 1 = 0 + wn_w c / 2147483648
    show 0 + (wn_w c / 2147483648) * 1 = _
    omega
  | n + 1 => by
    have ih := wn_1w_v c x n
    have h1 := wn_1w_w c x n
    show (wn_v (wn_d (wn_1w c x)) n + wn_w (wn_1w c x n) * wn_p n) + (wn_w (x n) / 2147483648) * (wn_p n * 4294967296) = 2 * (wn_v (wn_d x) n + wn_w (x n) * wn_p n) + _
    rw [h1, Nat.add_mul]
    have h2 := wn_step (wn_w (x n) * 2) (wn_p n)
    have h3 : wn_w (x n) * 2 / 4294967296 = wn_w (x n) / 2147483648 := by omega
    rw [h3] at h2
    have h4 : wn_w (x n) * 2 * wn_p n = 2 * (wn_w (x n) * wn_p n) := by rw [Nat.mul_comm (wn_w (x n)) 2, Nat.mul_assoc]
    omega
/-- the end of a square: all doubled, the lowest bit in -/
theorem wn_sq_end (x U : Nat → Int32) {n d : Nat} (hn : 1 ≤ n) (hU : wn_v (wn_d U) (n + n) + d * wn_p (n + n) = wn_v (wn_d (wn_h x n)) (n + n) + wn_X x n) (c : Int32) (hc : c = wn_su (x 0) 31) :
    wn_v (wn_d (wr_f (wn_1w c U) U (n + n))) (n + n) = wn_v (wn_d x) n * wn_v (wn_d x) n := by
  have h0 : wn_v (wn_d (wr_f (wn_1w c U) U (n + n))) (n + n) = wn_v (wn_d (wn_1w c U)) (n + n) := wn_v_congr _ (fun i hi => by show wn_w (wr_f _ _ _ i) = _; rw [wr_fl _ _ hi])
  have h1 := wn_1w_v c U (n + n)
  have h2 := wn_h_val x n n (Nat.le_refl n)
  have h3 := wn_sq_split x n
  have h4 : wn_q x n n = 0 := if_neg (Nat.lt_irrefl n)
  have h5 : wn_q x n 0 = wn_w (x 0) * wn_w (x 0) := if_pos (by omega)
  have h6 : wn_w c / 2147483648 = wn_w (x 0) % 2 := by
    rw [hc]
    have h7 := wn_su31 (wn_w (x 0))
    rw [wn_nI_w] at h7
    rw [h7]
    omega
  have h7 : wn_w (x 0) * wn_w (x 0) % 2 = wn_w (x 0) % 2 := by
    rw [Nat.mul_mod]
    rcases Nat.mod_two_eq_zero_or_one (wn_w (x 0)) with h | h <;> rw [h]
  have h8 := wn_v_lt (g := wn_d x) (fun i => wn_w_lt (x i)) n
  have h9 : wn_v (wn_d x) n * wn_v (wn_d x) n < wn_p (n + n) := by
    rw [wn_p_add]
    exact Nat.mul_lt_mul'' h8 h8
  rw [h4, h5, h7] at h2
  rw [h6] at h1
  rw [h0]
  generalize wn_w (wn_pv c U (n + n)) / 2147483648 = o at *
  generalize wn_v (wn_d (wn_1w c U)) (n + n) = r at *
  generalize wn_v (wn_d x) n * wn_v (wn_d x) n = S at *
  generalize wn_v (wn_d (wn_h x n)) (n + n) = Hh at *
  generalize wn_v (wn_d U) (n + n) = u at *
  have e1 : 0 % 2 * wn_p (n + n) = 0 := by simp
  rw [e1] at h2
  have e2 : r + o * wn_p (n + n) + 2 * (d * wn_p (n + n)) = S := by omega
  rcases Nat.eq_zero_or_pos o with g | g
  · rcases Nat.eq_zero_or_pos d with g2 | g2
    · rw [g, g2] at e2
      omega
    · have := Nat.le_mul_of_pos_left (wn_p (n + n)) g2
      omega
  · have := Nat.le_mul_of_pos_left (wn_p (n + n)) g
    omega
theorem wn_mul_first (x y z : Nat → Int32) (n : Nat) : wn_v (wn_d (upd (wr_f (wn_cw (wn_gM (wn_w (x 0)) y)) z n) n (nI (wn_c (wn_gM (wn_w (x 0)) y) n)))) (1 + n) = wn_v (wn_d x) 1 * wn_v (wn_d y) n := by
  have hc : wn_c (wn_gM (wn_w (x 0)) y) n < 4294967296 := wn_c_lt (wn_gM_le (wn_w_lt (x 0)) y) n
  have h1 := wn_c_v (wn_gM (wn_w (x 0)) y) n
  rw [wn_gM_v] at h1
  have h2 : wn_v (wn_d (upd (wr_f (wn_cw (wn_gM (wn_w (x 0)) y)) z n) n (nI (wn_c (wn_gM (wn_w (x 0)) y) n)))) n = wn_v (wn_d (wn_cw (wn_gM (wn_w (x 0)) y))) n := by
    apply wn_v_congr
    intro i hi
    show wn_w (upd _ _ _ i) = _
    rw [pk_un (by omega), wr_fl _ _ hi]
  have h3 : wn_w (upd (wr_f (wn_cw (wn_gM (wn_w (x 0)) y)) z n) n (nI (wn_c (wn_gM (wn_w (x 0)) y) n)) n) = wn_c (wn_gM (wn_w (x 0)) y) n := by rw [pk_us, wn_w_lt' hc]
  rw [Nat.add_comm 1 n, wn_v_lin]
  show wn_v _ n + wn_w _ * wn_p n = _
  rw [h2, h3]
  exact h1
theorem wn_q_n (x : Nat → Int32) (n : Nat) : wn_q x n n = 0 := if_neg (Nat.lt_irrefl n)
theorem wn_h_e (x : Nat → Int32) (n i : Nat) : wn_h x n (i + i) = nI (wn_q x n i / 2) := by
  unfold wn_h
  rw [if_pos (by omega), show (i + i) / 2 = i by omega]
theorem wn_h_o (x : Nat → Int32) (n i : Nat) : wn_h x n (i + i + 1) = wn_su (nI (wn_q x n (i + 1))) 31 ||| nI (wn_q x n i / 8589934592) := by
  unfold wn_h
  rw [if_neg (by omega), show (i + i + 1) / 2 = i by omega]
theorem wn_shl1 (n : Nat) (h : n < 2 ^ 30) : nI n <<< ((1 : Int32) &&& 31) = nI (n + n) := by
  rw [pk_shlN _ 1 (by decide) (by omega), show n * 2 ^ 1 = n + n by omega]
theorem nI_gt0 {n : Nat} (h : 0 < n) (hn : n < 2 ^ 31) : 0 < nI n := by
  have h1 := nI_lt h hn
  rwa [nI_0] at h1
theorem wn_shr33 {n : Nat} (hn : n < 18446744073709551616) : ((lN n).toUInt64 >>> ((33 : Int32).toInt64.toUInt64 &&& Int64.toUInt64 63)).toInt64 = lN (n / 8589934592) := wn_shr (k := 33) hn (by decide)
theorem wn_shr1 {n : Nat} (hn : n < 18446744073709551616) : ((lN n).toUInt64 >>> ((1 : Int32).toInt64.toUInt64 &&& Int64.toUInt64 63)).toInt64 = lN (n / 2) := wn_shr (k := 1) hn (by decide)
theorem wn_X1 (x : Nat → Int32) : wn_X x 1 = 0 := by
  show 0 + wn_w (x 0) * 0 * 1 = 0
  omega
end
section
/-! Nat: the methods that call none -/
set_option maxHeartbeats 4000000 in
set_option maxRecDepth 100000 in
/-- Nat.add: the third row gets the words, of whichever rows it is one -/
theorem m_add (l : Launch) (D : va_G) (dI dF : ClassId) (ws : va_W) (sz : Nat) (n i1 i2 i3 a1 a2 a3 n1 n2 n3 : Nat) (x y z : Nat → Int32) (h1 : ws[i1]? = some (wr_i dI a1 n1 x)) (h2 : ws[i2]? = some (wr_i dI a2 n2 y)) (h3 : ws[i3]? = some (wr_i dI a3 n3 z)) (l1 : n ≤ n1) (l2 : n ≤ n2) (l3 : n ≤ n3) (b1 : n1 < 2 ^ 31) (b2 : n2 < 2 ^ 31) (b3 : n3 < 2 ^ 31) : Met l yX2_add (ws_ yX2_add cX2_add 7 (some .int)) wr_r0 (wr_Pc D dI dF [.int (nI n), .ref a1, .ref a2, .ref a3] ws sz) (va_Qi (fun (r : Int32) (_ : Unit) => r = nI (wn_c (wn_gA x y) n)) (fun _ t => wr_B D (va_A ws sz) (ws.set i3 (wr_i dI a3 n3 (wr_f (wn_cw (wn_gA x y)) z n))) t) (va_A ws sz)) 0 0 (va_A ws sz) := by
  refine Met.ofW (cc := cX2_add) (maxL := 7) (ret := (some .int)) (by decide) rfl ?_
  intro p e s m args below meth c s₁ B hml hv
  obtain ⟨rfl, hsz, hP, hK, hD0⟩ := hv
  have hx := B.exec
  have hb := B.bytes
  have hr := B.returns
  have hts := atoms_spec (ws := ws_ yX2_add cX2_add 7 (some .int)) B.pre
  have hts : ∀ w ∈ lw_all, w.before _ s = true := fun w h => hts w (List.mem_cons_of_mem _ h)
  have hown : s.vm.findClass RX2 = some m.cls := findClass_of_methodNamed B.named
  have hlocks := B.notSynchronized
  subst hsz
  have hD := hD0.self (sz := s.heap.size)
  generalize hAe : va_A ws s.heap.size = A at hD ⊢
  have hA : ∀ q : Nat, s.heap.size ≤ q → A q := fun q h => by rw [← hAe]; exact Or.inr h
  have hS : va_S A s.heap s.heap [] := va_S.rf
  have hl := lv_entry ([.int (nI n), .ref a1, .ref a2, .ref a3]) (n := 7) (Nat.le_of_ble_eq_true rfl)
  rw [lg_entry_eq]
  generalize (lg_sl ([.int (nI n), .ref a1, .ref a2, .ref a3]) ++ List.replicate (7 - (lg_sl ([.int (nI n), .ref a1, .ref a2, .ref a3])).length) Slot.unset).toArray = ls at hl ⊢
  have hl : lv_has ls 7 [(0, .int (nI n)), (1, .ref a1), (2, .ref a2), (3, .ref a3)] := hl
  refine lv_lconst (v := lN 0) hx hb dX2_add_0 (by decide) ?_
  refine lv_lstore (lv' := [(4, .long (lN 0)), (0, .int (nI n)), (1, .ref a1), (2, .ref a2), (3, .ref a3)]) hx hb dX2_add_1 hl (by decide) rfl (fun ls hl => ?_)
  refine lv_iconst (v := nI 0) hx hb dX2_add_3 (by decide) ?_
  refine lv_istore (lv' := [(6, .int (nI 0)), (4, .long (lN 0)), (0, .int (nI n)), (1, .ref a1), (2, .ref a2), (3, .ref a3)]) hx hb dX2_add_4 hl (by decide) rfl (fun ls hl => ?_)
  have hB : n < 2 ^ 31 := by omega
  have loop : ∀ (k i : Nat) (H : Heap) (locs : List Loc) (ls : Array Slot), i + k = n → va_P D vwCl (ws.set i3 (wr_i dI a3 n3 (wr_f (wn_cw (wn_gA x y)) z i))) H → va_D A (ws.set i3 (wr_i dI a3 n3 (wr_f (wn_cw (wn_gA x y)) z i))) → va_S A s.heap H locs → lv_has ls 7 [(6, .int (nI i)), (4, .long (lN (wn_c (wn_gA x y) i))), (0, .int (nI n)), (1, .ref a1), (2, .ref a2), (3, .ref a3)] → W p l e (headSpec (ws_ yX2_add cX2_add 7 (some .int)) wr_r0).room s m (([.int (nI n), .ref a1, .ref a2, .ref a3] : List Value).toArray) below meth c H locs 0 0 (MQ below (va_Qi (fun (r : Int32) (_ : Unit) => r = nI (wn_c (wn_gA x y) n)) (fun _ t => wr_B D A (ws.set i3 (wr_i dI a3 n3 (wr_f (wn_cw (wn_gA x y)) z n))) t) A) (([.int (nI n), .ref a1, .ref a2, .ref a3] : List Value).toArray) s 0 0 A) (F0 m 6 ls []) := by
    intro k
    induction k with
    | zero =>
      intro i H locs ls hik hP hD hS hl
      have hin : i = n := by omega
      rw [hin] at hP hD hl
      refine lv_iload hx hb dX2_add_6 (lv_at hl 0 rfl) ?_
      refine lv_iload_n hx hb dX2_add_8 rfl (lv_at hl 2 rfl) ?_
      refine lv_icmp_ge (tgt := 56) hx hb dX2_add_9 (by decide) (fun _ => ?_) (fun q_ => absurd (nI_le (Nat.le_refl n) hB) q_)
      refine lv_lload hx hb dX2_add_56 (lv_at hl 1 rfl) ?_
      refine lv_l2i (v := nI (wn_c (wn_gA x y) n)) hx hb dX2_add_58 (lN_i _) ?_
      exact wr_iret () hx hb hr hlocks hP hD hS (rfl) (Nat.zero_le _) (Nat.zero_le _) dX2_add_59
    | succ k ih =>
      intro i H locs ls hik hP hD hS hl
      have hi : i < n := by omega
      obtain ⟨f1, e1, v1⟩ := wr_rd (g := wr_f (wn_cw (wn_gA x y)) z i) h1 h3 (wr_fi _ _ (Nat.le_refl i))
      obtain ⟨f2, e2, v2⟩ := wr_rd (g := wr_f (wn_cw (wn_gA x y)) z i) h2 h3 (wr_fi _ _ (Nat.le_refl i))
      refine lv_iload hx hb dX2_add_6 (lv_at hl 0 rfl) ?_
      refine lv_iload_n hx hb dX2_add_8 rfl (lv_at hl 2 rfl) ?_
      refine lv_icmp_ge (tgt := 56) hx hb dX2_add_9 (by decide) (fun q_ => absurd q_ (nI_ge hi hB)) (fun _ => ?_)
      refine lv_lload hx hb dX2_add_12 (lv_at hl 1 rfl) ?_
      refine lv_aload_n hx hb dX2_add_14 rfl (lv_at hl 3 rfl) ?_
      refine lv_iload hx hb dX2_add_15 (lv_at hl 0 rfl) ?_
      refine wr_iald hx hb hK hP e1 (by omega) (b1) dX2_add_17 ?_
      refine lv_i2l (v := (f1 i).toInt64) hx hb dX2_add_18 (rfl) ?_
      refine lv_ldc2 (v := 4294967295) hx hb hown (hts _ q14) dX2_add_19 ?_
      refine lv_land hx hb dX2_add_22 ?_
      refine wr_topl (lN (wn_w (x i))) (by rw [v1]; exact wn_i2l _) ?_
      refine lv_aload_n hx hb dX2_add_23 rfl (lv_at hl 4 rfl) ?_
      refine lv_iload hx hb dX2_add_24 (lv_at hl 0 rfl) ?_
      refine wr_iald hx hb hK hP e2 (by omega) (b2) dX2_add_26 ?_
      refine lv_i2l (v := (f2 i).toInt64) hx hb dX2_add_27 (rfl) ?_
      refine lv_ldc2 (v := 4294967295) hx hb hown (hts _ q14) dX2_add_28 ?_
      refine lv_land hx hb dX2_add_31 ?_
      refine wr_topl (lN (wn_w (y i))) (by rw [v2]; exact wn_i2l _) ?_
      refine lv_ladd hx hb dX2_add_32 ?_
      refine wr_topl (lN (wn_gA x y i)) (lN_add _ _) ?_
      refine lv_ladd hx hb dX2_add_33 ?_
      refine wr_topl (lN (wn_c (wn_gA x y) i + wn_gA x y i)) (lN_add _ _) ?_
      refine lv_lstore (lv' := [(4, .long (lN (wn_c (wn_gA x y) i + wn_gA x y i))), (6, .int (nI i)), (0, .int (nI n)), (1, .ref a1), (2, .ref a2), (3, .ref a3)]) hx hb dX2_add_34 hl (by decide) rfl (fun ls hl => ?_)
      refine lv_aload_n hx hb dX2_add_36 rfl (lv_at hl 5 rfl) ?_
      refine lv_iload hx hb dX2_add_37 (lv_at hl 1 rfl) ?_
      refine lv_lload hx hb dX2_add_39 (lv_at hl 0 rfl) ?_
      refine lv_l2i (v := (wn_cw (wn_gA x y)) i) hx hb dX2_add_41 (lN_i _) ?_
      refine wr_iast hx hb hK hP hD hS (wr_set_at h3) (by omega) (b3) ((ws.set i3 (wr_i dI a3 n3 (wr_f (wn_cw (wn_gA x y)) z (i + 1))))) (by rw [wr_set_set, wr_fu]) dX2_add_42 (fun H locs hP hD hS => ?_)
      refine lv_lload hx hb dX2_add_43 (lv_at hl 0 rfl) ?_
      refine lv_bipush (v := 32) hx hb dX2_add_45 (by decide) ?_
      refine lv_lushr (v := lN (wn_c (wn_gA x y) (i + 1))) hx hb dX2_add_47 (wn_shr32 (by have h8 := wn_c_le1 (wn_gA_le x y) i; have h9 := wn_gA_le x y i; omega)) ?_
      refine lv_lstore (lv' := [(4, .long (lN (wn_c (wn_gA x y) (i + 1)))), (6, .int (nI i)), (0, .int (nI n)), (1, .ref a1), (2, .ref a2), (3, .ref a3)]) hx hb dX2_add_48 hl (by decide) rfl (fun ls hl => ?_)
      refine lv_iinc (v := nI (i + 1)) (lv' := [(6, .int (nI (i + 1))), (4, .long (lN (wn_c (wn_gA x y) (i + 1)))), (0, .int (nI n)), (1, .ref a1), (2, .ref a2), (3, .ref a3)]) hx hb dX2_add_50 hl (k := 1) rfl (wn_inc i) (by decide) rfl (fun ls hl => ?_)
      refine lv_goto (tgt := 6) hx hb dX2_add_53 (by decide) ?_
      exact ih (i + 1) H locs ls (by omega) hP hD hS (lv_sub hl [0, 1, 2, 3, 4, 5] rfl)
  have e0 : (ws.set i3 (wr_i dI a3 n3 (wr_f (wn_cw (wn_gA x y)) z 0))) = ws := by rw [wr_f0]; exact wr_set_self h3
  exact loop n 0 s.heap [] ls (by omega) (by rw [e0]; exact hP) (by rw [e0]; exact hD) hS (lv_sub hl [0, 1, 2, 3, 4, 5] rfl)

set_option maxHeartbeats 4000000 in
set_option maxRecDepth 100000 in
/-- Nat.sub: the third row gets the words, of whichever rows it is one -/
theorem m_sub (l : Launch) (D : va_G) (dI dF : ClassId) (ws : va_W) (sz : Nat) (n i1 i2 i3 a1 a2 a3 n1 n2 n3 : Nat) (x y z : Nat → Int32) (h1 : ws[i1]? = some (wr_i dI a1 n1 x)) (h2 : ws[i2]? = some (wr_i dI a2 n2 y)) (h3 : ws[i3]? = some (wr_i dI a3 n3 z)) (l1 : n ≤ n1) (l2 : n ≤ n2) (l3 : n ≤ n3) (b1 : n1 < 2 ^ 31) (b2 : n2 < 2 ^ 31) (b3 : n3 < 2 ^ 31) : Met l yX2_sub (ws_ yX2_sub cX2_sub 7 (some .int)) wr_r0 (wr_Pc D dI dF [.int (nI n), .ref a1, .ref a2, .ref a3] ws sz) (va_Qi (fun (r : Int32) (_ : Unit) => r = Int32.ofInt (wn_b x y n)) (fun _ t => wr_B D (va_A ws sz) (ws.set i3 (wr_i dI a3 n3 (wr_f (wn_bw x y) z n))) t) (va_A ws sz)) 0 0 (va_A ws sz) := by
  refine Met.ofW (cc := cX2_sub) (maxL := 7) (ret := (some .int)) (by decide) rfl ?_
  intro p e s m args below meth c s₁ B hml hv
  obtain ⟨rfl, hsz, hP, hK, hD0⟩ := hv
  have hx := B.exec
  have hb := B.bytes
  have hr := B.returns
  have hts := atoms_spec (ws := ws_ yX2_sub cX2_sub 7 (some .int)) B.pre
  have hts : ∀ w ∈ lw_all, w.before _ s = true := fun w h => hts w (List.mem_cons_of_mem _ h)
  have hown : s.vm.findClass RX2 = some m.cls := findClass_of_methodNamed B.named
  have hlocks := B.notSynchronized
  subst hsz
  have hD := hD0.self (sz := s.heap.size)
  generalize hAe : va_A ws s.heap.size = A at hD ⊢
  have hA : ∀ q : Nat, s.heap.size ≤ q → A q := fun q h => by rw [← hAe]; exact Or.inr h
  have hS : va_S A s.heap s.heap [] := va_S.rf
  have hl := lv_entry ([.int (nI n), .ref a1, .ref a2, .ref a3]) (n := 7) (Nat.le_of_ble_eq_true rfl)
  rw [lg_entry_eq]
  generalize (lg_sl ([.int (nI n), .ref a1, .ref a2, .ref a3]) ++ List.replicate (7 - (lg_sl ([.int (nI n), .ref a1, .ref a2, .ref a3])).length) Slot.unset).toArray = ls at hl ⊢
  have hl : lv_has ls 7 [(0, .int (nI n)), (1, .ref a1), (2, .ref a2), (3, .ref a3)] := hl
  refine lv_lconst (v := wn_l 0) hx hb dX2_sub_0 (by decide) ?_
  refine lv_lstore (lv' := [(4, .long (wn_l 0)), (0, .int (nI n)), (1, .ref a1), (2, .ref a2), (3, .ref a3)]) hx hb dX2_sub_1 hl (by decide) rfl (fun ls hl => ?_)
  refine lv_iconst (v := nI 0) hx hb dX2_sub_3 (by decide) ?_
  refine lv_istore (lv' := [(6, .int (nI 0)), (4, .long (wn_l 0)), (0, .int (nI n)), (1, .ref a1), (2, .ref a2), (3, .ref a3)]) hx hb dX2_sub_4 hl (by decide) rfl (fun ls hl => ?_)
  have hB : n < 2 ^ 31 := by omega
  have loop : ∀ (k i : Nat) (H : Heap) (locs : List Loc) (ls : Array Slot), i + k = n → va_P D vwCl (ws.set i3 (wr_i dI a3 n3 (wr_f (wn_bw x y) z i))) H → va_D A (ws.set i3 (wr_i dI a3 n3 (wr_f (wn_bw x y) z i))) → va_S A s.heap H locs → lv_has ls 7 [(6, .int (nI i)), (4, .long (wn_l (wn_b x y i))), (0, .int (nI n)), (1, .ref a1), (2, .ref a2), (3, .ref a3)] → W p l e (headSpec (ws_ yX2_sub cX2_sub 7 (some .int)) wr_r0).room s m (([.int (nI n), .ref a1, .ref a2, .ref a3] : List Value).toArray) below meth c H locs 0 0 (MQ below (va_Qi (fun (r : Int32) (_ : Unit) => r = Int32.ofInt (wn_b x y n)) (fun _ t => wr_B D A (ws.set i3 (wr_i dI a3 n3 (wr_f (wn_bw x y) z n))) t) A) (([.int (nI n), .ref a1, .ref a2, .ref a3] : List Value).toArray) s 0 0 A) (F0 m 6 ls []) := by
    intro k
    induction k with
    | zero =>
      intro i H locs ls hik hP hD hS hl
      have hin : i = n := by omega
      rw [hin] at hP hD hl
      refine lv_iload hx hb dX2_sub_6 (lv_at hl 0 rfl) ?_
      refine lv_iload_n hx hb dX2_sub_8 rfl (lv_at hl 2 rfl) ?_
      refine lv_icmp_ge (tgt := 56) hx hb dX2_sub_9 (by decide) (fun _ => ?_) (fun q_ => absurd (nI_le (Nat.le_refl n) hB) q_)
      refine lv_lload hx hb dX2_sub_56 (lv_at hl 1 rfl) ?_
      refine lv_l2i (v := Int32.ofInt (wn_b x y n)) hx hb dX2_sub_58 (wn_li _) ?_
      exact wr_iret () hx hb hr hlocks hP hD hS (rfl) (Nat.zero_le _) (Nat.zero_le _) dX2_sub_59
    | succ k ih =>
      intro i H locs ls hik hP hD hS hl
      have hi : i < n := by omega
      obtain ⟨f1, e1, v1⟩ := wr_rd (g := wr_f (wn_bw x y) z i) h1 h3 (wr_fi _ _ (Nat.le_refl i))
      obtain ⟨f2, e2, v2⟩ := wr_rd (g := wr_f (wn_bw x y) z i) h2 h3 (wr_fi _ _ (Nat.le_refl i))
      refine lv_iload hx hb dX2_sub_6 (lv_at hl 0 rfl) ?_
      refine lv_iload_n hx hb dX2_sub_8 rfl (lv_at hl 2 rfl) ?_
      refine lv_icmp_ge (tgt := 56) hx hb dX2_sub_9 (by decide) (fun q_ => absurd q_ (nI_ge hi hB)) (fun _ => ?_)
      refine lv_lload hx hb dX2_sub_12 (lv_at hl 1 rfl) ?_
      refine lv_aload_n hx hb dX2_sub_14 rfl (lv_at hl 3 rfl) ?_
      refine lv_iload hx hb dX2_sub_15 (lv_at hl 0 rfl) ?_
      refine wr_iald hx hb hK hP e1 (by omega) (b1) dX2_sub_17 ?_
      refine lv_i2l (v := (f1 i).toInt64) hx hb dX2_sub_18 (rfl) ?_
      refine lv_ldc2 (v := 4294967295) hx hb hown (hts _ q14) dX2_sub_19 ?_
      refine lv_land hx hb dX2_sub_22 ?_
      refine wr_topl (lN (wn_w (x i))) (by rw [v1]; exact wn_i2l _) ?_
      refine lv_aload_n hx hb dX2_sub_23 rfl (lv_at hl 4 rfl) ?_
      refine lv_iload hx hb dX2_sub_24 (lv_at hl 0 rfl) ?_
      refine wr_iald hx hb hK hP e2 (by omega) (b2) dX2_sub_26 ?_
      refine lv_i2l (v := (f2 i).toInt64) hx hb dX2_sub_27 (rfl) ?_
      refine lv_ldc2 (v := 4294967295) hx hb hown (hts _ q14) dX2_sub_28 ?_
      refine lv_land hx hb dX2_sub_31 ?_
      refine wr_topl (lN (wn_w (y i))) (by rw [v2]; exact wn_i2l _) ?_
      refine lv_lsub hx hb dX2_sub_32 ?_
      refine wr_topl (wn_l ((wn_w (x i) : Int) - wn_w (y i))) (wn_lsub _ _) ?_
      refine lv_ladd hx hb dX2_sub_33 ?_
      refine wr_topl (wn_l (wn_b x y i + ((wn_w (x i) : Int) - wn_w (y i)))) (wn_ladd _ _) ?_
      refine lv_lstore (lv' := [(4, .long (wn_l (wn_b x y i + ((wn_w (x i) : Int) - wn_w (y i))))), (6, .int (nI i)), (0, .int (nI n)), (1, .ref a1), (2, .ref a2), (3, .ref a3)]) hx hb dX2_sub_34 hl (by decide) rfl (fun ls hl => ?_)
      refine lv_aload_n hx hb dX2_sub_36 rfl (lv_at hl 5 rfl) ?_
      refine lv_iload hx hb dX2_sub_37 (lv_at hl 1 rfl) ?_
      refine lv_lload hx hb dX2_sub_39 (lv_at hl 0 rfl) ?_
      refine lv_l2i (v := (wn_bw x y) i) hx hb dX2_sub_41 (wn_li _) ?_
      refine wr_iast hx hb hK hP hD hS (wr_set_at h3) (by omega) (b3) ((ws.set i3 (wr_i dI a3 n3 (wr_f (wn_bw x y) z (i + 1))))) (by rw [wr_set_set, wr_fu]) dX2_sub_42 (fun H locs hP hD hS => ?_)
      refine lv_lload hx hb dX2_sub_43 (lv_at hl 0 rfl) ?_
      refine lv_bipush (v := 32) hx hb dX2_sub_45 (by decide) ?_
      refine lv_lshr (v := wn_l (wn_b x y (i + 1))) hx hb dX2_sub_47 (wn_lsh (by have h8 := wn_b_in x y i; have h6 := wn_w_lt (x i); have h7 := wn_w_lt (y i); omega) (by have h8 := wn_b_in x y i; have h6 := wn_w_lt (x i); have h7 := wn_w_lt (y i); omega)) ?_
      refine lv_lstore (lv' := [(4, .long (wn_l (wn_b x y (i + 1)))), (6, .int (nI i)), (0, .int (nI n)), (1, .ref a1), (2, .ref a2), (3, .ref a3)]) hx hb dX2_sub_48 hl (by decide) rfl (fun ls hl => ?_)
      refine lv_iinc (v := nI (i + 1)) (lv' := [(6, .int (nI (i + 1))), (4, .long (wn_l (wn_b x y (i + 1)))), (0, .int (nI n)), (1, .ref a1), (2, .ref a2), (3, .ref a3)]) hx hb dX2_sub_50 hl (k := 1) rfl (wn_inc i) (by decide) rfl (fun ls hl => ?_)
      refine lv_goto (tgt := 6) hx hb dX2_sub_53 (by decide) ?_
      exact ih (i + 1) H locs ls (by omega) hP hD hS (lv_sub hl [0, 1, 2, 3, 4, 5] rfl)
  have e0 : (ws.set i3 (wr_i dI a3 n3 (wr_f (wn_bw x y) z 0))) = ws := by rw [wr_f0]; exact wr_set_self h3
  exact loop n 0 s.heap [] ls (by omega) (by rw [e0]; exact hP) (by rw [e0]; exact hD) hS (lv_sub hl [0, 1, 2, 3, 4, 5] rfl)

set_option maxHeartbeats 4000000 in
set_option maxRecDepth 100000 in
/-- Nat.mulWord: a word times a row -/
theorem m_mulWord (l : Launch) (D : va_G) (dI dF : ClassId) (ws : va_W) (sz : Nat) (n i2 i3 a2 a3 n2 n3 : Nat) (w : Int32) (y z : Nat → Int32) (h2 : ws[i2]? = some (wr_i dI a2 n2 y)) (h3 : ws[i3]? = some (wr_i dI a3 n3 z)) (hn : 1 ≤ n) (l2 : n ≤ n2) (l3 : n ≤ n3) (b2 : n2 < 2 ^ 31) (b3 : n3 < 2 ^ 31) : Met l yX2_mulWord (ws_ yX2_mulWord cX2_mulWord 9 (some .int)) wr_r0 (wr_Pc D dI dF [.int (nI n), .int w, .ref a2, .ref a3] ws sz) (va_Qi (fun (r : Int32) (_ : Unit) => r = nI (wn_c (wn_gM (wn_w w) y) n)) (fun _ t => wr_B D (va_A ws sz) (ws.set i3 (wr_i dI a3 n3 (wr_f (wn_cw (wn_gM (wn_w w) y)) z n))) t) (va_A ws sz)) 0 0 (va_A ws sz) := by
  refine Met.ofW (cc := cX2_mulWord) (maxL := 9) (ret := (some .int)) (by decide) rfl ?_
  intro p e s m args below meth c s₁ B hml hv
  obtain ⟨rfl, hsz, hP, hK, hD0⟩ := hv
  have hx := B.exec
  have hb := B.bytes
  have hr := B.returns
  have hts := atoms_spec (ws := ws_ yX2_mulWord cX2_mulWord 9 (some .int)) B.pre
  have hts : ∀ w ∈ lw_all, w.before _ s = true := fun w h => hts w (List.mem_cons_of_mem _ h)
  have hown : s.vm.findClass RX2 = some m.cls := findClass_of_methodNamed B.named
  have hlocks := B.notSynchronized
  subst hsz
  have hD := hD0.self (sz := s.heap.size)
  generalize hAe : va_A ws s.heap.size = A at hD ⊢
  have hA : ∀ q : Nat, s.heap.size ≤ q → A q := fun q h => by rw [← hAe]; exact Or.inr h
  have hS : va_S A s.heap s.heap [] := va_S.rf
  have hl := lv_entry ([.int (nI n), .int w, .ref a2, .ref a3]) (n := 9) (Nat.le_of_ble_eq_true rfl)
  rw [lg_entry_eq]
  generalize (lg_sl ([.int (nI n), .int w, .ref a2, .ref a3]) ++ List.replicate (9 - (lg_sl ([.int (nI n), .int w, .ref a2, .ref a3])).length) Slot.unset).toArray = ls at hl ⊢
  have hl : lv_has ls 9 [(0, .int (nI n)), (1, .int w), (2, .ref a2), (3, .ref a3)] := hl
  refine lv_lconst (v := lN 0) hx hb dX2_mulWord_0 (by decide) ?_
  refine lv_lstore (lv' := [(4, .long (lN 0)), (0, .int (nI n)), (1, .int w), (2, .ref a2), (3, .ref a3)]) hx hb dX2_mulWord_1 hl (by decide) rfl (fun ls hl => ?_)
  refine lv_iload_n hx hb dX2_mulWord_3 rfl (lv_at hl 2 rfl) ?_
  refine lv_i2l (v := w.toInt64) hx hb dX2_mulWord_4 (rfl) ?_
  refine lv_ldc2 (v := 4294967295) hx hb hown (hts _ q14) dX2_mulWord_5 ?_
  refine lv_land hx hb dX2_mulWord_8 ?_
  refine wr_topl (lN (wn_w w)) (wn_i2l w) ?_
  refine lv_lstore (lv' := [(6, .long (lN (wn_w w))), (4, .long (lN 0)), (0, .int (nI n)), (1, .int w), (2, .ref a2), (3, .ref a3)]) hx hb dX2_mulWord_9 hl (by decide) rfl (fun ls hl => ?_)
  refine lv_iconst (v := nI 0) hx hb dX2_mulWord_11 (by decide) ?_
  refine lv_istore (lv' := [(8, .int (nI 0)), (6, .long (lN (wn_w w))), (4, .long (lN 0)), (0, .int (nI n)), (1, .int w), (2, .ref a2), (3, .ref a3)]) hx hb dX2_mulWord_12 hl (by decide) rfl (fun ls hl => ?_)
  have hB : n < 2 ^ 31 := by omega
  have hw := wn_w_lt w
  have loop : ∀ (k i : Nat) (H : Heap) (locs : List Loc) (ls : Array Slot), i + (k + 1) = n → va_P D vwCl (ws.set i3 (wr_i dI a3 n3 (wr_f (wn_cw (wn_gM (wn_w w) y)) z i))) H → va_D A (ws.set i3 (wr_i dI a3 n3 (wr_f (wn_cw (wn_gM (wn_w w) y)) z i))) → va_S A s.heap H locs → lv_has ls 9 [(8, .int (nI i)), (4, .long (lN (wn_c (wn_gM (wn_w w) y) i))), (6, .long (lN (wn_w w))), (0, .int (nI n)), (2, .ref a2), (3, .ref a3)] → W p l e (headSpec (ws_ yX2_mulWord cX2_mulWord 9 (some .int)) wr_r0).room s m (([.int (nI n), .int w, .ref a2, .ref a3] : List Value).toArray) below meth c H locs 0 0 (MQ below (va_Qi (fun (r : Int32) (_ : Unit) => r = nI (wn_c (wn_gM (wn_w w) y) n)) (fun _ t => wr_B D A (ws.set i3 (wr_i dI a3 n3 (wr_f (wn_cw (wn_gM (wn_w w) y)) z n))) t) A) (([.int (nI n), .int w, .ref a2, .ref a3] : List Value).toArray) s 0 0 A) (F0 m 14 ls []) := by
    intro k
    induction k with
    | zero =>
      intro i H locs ls hik hP hD hS hl
      have hi : i < n := by omega
      obtain ⟨f2, e2, v2⟩ := wr_rd (g := wr_f (wn_cw (wn_gM (wn_w w) y)) z i) h2 h3 (wr_fi _ _ (Nat.le_refl i))
      refine lv_lload hx hb dX2_mulWord_14 (lv_at hl 1 rfl) ?_
      refine lv_lload hx hb dX2_mulWord_16 (lv_at hl 2 rfl) ?_
      refine lv_aload_n hx hb dX2_mulWord_18 rfl (lv_at hl 4 rfl) ?_
      refine lv_iload hx hb dX2_mulWord_19 (lv_at hl 0 rfl) ?_
      refine wr_iald hx hb hK hP e2 (by omega) (b2) dX2_mulWord_21 ?_
      refine lv_i2l (v := (f2 i).toInt64) hx hb dX2_mulWord_22 (rfl) ?_
      refine lv_ldc2 (v := 4294967295) hx hb hown (hts _ q14) dX2_mulWord_23 ?_
      refine lv_land hx hb dX2_mulWord_26 ?_
      refine wr_topl (lN (wn_w (y i))) (by rw [v2]; exact wn_i2l _) ?_
      refine lv_lmul hx hb dX2_mulWord_27 ?_
      refine wr_topl (lN (wn_gM (wn_w w) y i)) (lN_mul _ _) ?_
      refine lv_ladd hx hb dX2_mulWord_28 ?_
      refine wr_topl (lN (wn_c (wn_gM (wn_w w) y) i + wn_gM (wn_w w) y i)) (lN_add _ _) ?_
      refine lv_lstore (lv' := [(4, .long (lN (wn_c (wn_gM (wn_w w) y) i + wn_gM (wn_w w) y i))), (8, .int (nI i)), (6, .long (lN (wn_w w))), (0, .int (nI n)), (2, .ref a2), (3, .ref a3)]) hx hb dX2_mulWord_29 hl (by decide) rfl (fun ls hl => ?_)
      refine lv_aload_n hx hb dX2_mulWord_31 rfl (lv_at hl 5 rfl) ?_
      refine lv_iload hx hb dX2_mulWord_32 (lv_at hl 1 rfl) ?_
      refine lv_lload hx hb dX2_mulWord_34 (lv_at hl 0 rfl) ?_
      refine lv_l2i (v := (wn_cw (wn_gM (wn_w w) y)) i) hx hb dX2_mulWord_36 (lN_i _) ?_
      refine wr_iast hx hb hK hP hD hS (wr_set_at h3) (by omega) (b3) ((ws.set i3 (wr_i dI a3 n3 (wr_f (wn_cw (wn_gM (wn_w w) y)) z (i + 1))))) (by rw [wr_set_set, wr_fu]) dX2_mulWord_37 (fun H locs hP hD hS => ?_)
      refine lv_lload hx hb dX2_mulWord_38 (lv_at hl 0 rfl) ?_
      refine lv_bipush (v := 32) hx hb dX2_mulWord_40 (by decide) ?_
      refine lv_lushr (v := lN (wn_c (wn_gM (wn_w w) y) (i + 1))) hx hb dX2_mulWord_42 (wn_shr32 (by have h8 := wn_c_lt (wn_gM_le hw y) i; have h9 := wn_gM_le hw y i; omega)) ?_
      refine lv_lstore (lv' := [(4, .long (lN (wn_c (wn_gM (wn_w w) y) (i + 1)))), (8, .int (nI i)), (6, .long (lN (wn_w w))), (0, .int (nI n)), (2, .ref a2), (3, .ref a3)]) hx hb dX2_mulWord_43 hl (by decide) rfl (fun ls hl => ?_)
      refine lv_iinc (v := nI (i + 1)) (lv' := [(8, .int (nI (i + 1))), (4, .long (lN (wn_c (wn_gM (wn_w w) y) (i + 1)))), (6, .long (lN (wn_w w))), (0, .int (nI n)), (2, .ref a2), (3, .ref a3)]) hx hb dX2_mulWord_45 hl (k := 1) rfl (wn_inc i) (by decide) rfl (fun ls hl => ?_)
      refine lv_iload hx hb dX2_mulWord_48 (lv_at hl 0 rfl) ?_
      refine lv_iload_n hx hb dX2_mulWord_50 rfl (lv_at hl 3 rfl) ?_
      refine lv_icmp_lt (tgt := 14) hx hb dX2_mulWord_51 (by decide) (fun q_ => absurd q_ (nI_nlt (show n ≤ i + 1 by omega) (by omega))) (fun _ => ?_)
      have hin : i + 1 = n := by omega
      rw [hin] at hP hD hl
      refine lv_lload hx hb dX2_mulWord_54 (lv_at hl 1 rfl) ?_
      refine lv_l2i (v := nI (wn_c (wn_gM (wn_w w) y) n)) hx hb dX2_mulWord_56 (lN_i _) ?_
      exact wr_iret () hx hb hr hlocks hP hD hS (rfl) (Nat.zero_le _) (Nat.zero_le _) dX2_mulWord_57
    | succ k ih =>
      intro i H locs ls hik hP hD hS hl
      have hi : i < n := by omega
      obtain ⟨f2, e2, v2⟩ := wr_rd (g := wr_f (wn_cw (wn_gM (wn_w w) y)) z i) h2 h3 (wr_fi _ _ (Nat.le_refl i))
      refine lv_lload hx hb dX2_mulWord_14 (lv_at hl 1 rfl) ?_
      refine lv_lload hx hb dX2_mulWord_16 (lv_at hl 2 rfl) ?_
      refine lv_aload_n hx hb dX2_mulWord_18 rfl (lv_at hl 4 rfl) ?_
      refine lv_iload hx hb dX2_mulWord_19 (lv_at hl 0 rfl) ?_
      refine wr_iald hx hb hK hP e2 (by omega) (b2) dX2_mulWord_21 ?_
      refine lv_i2l (v := (f2 i).toInt64) hx hb dX2_mulWord_22 (rfl) ?_
      refine lv_ldc2 (v := 4294967295) hx hb hown (hts _ q14) dX2_mulWord_23 ?_
      refine lv_land hx hb dX2_mulWord_26 ?_
      refine wr_topl (lN (wn_w (y i))) (by rw [v2]; exact wn_i2l _) ?_
      refine lv_lmul hx hb dX2_mulWord_27 ?_
      refine wr_topl (lN (wn_gM (wn_w w) y i)) (lN_mul _ _) ?_
      refine lv_ladd hx hb dX2_mulWord_28 ?_
      refine wr_topl (lN (wn_c (wn_gM (wn_w w) y) i + wn_gM (wn_w w) y i)) (lN_add _ _) ?_
      refine lv_lstore (lv' := [(4, .long (lN (wn_c (wn_gM (wn_w w) y) i + wn_gM (wn_w w) y i))), (8, .int (nI i)), (6, .long (lN (wn_w w))), (0, .int (nI n)), (2, .ref a2), (3, .ref a3)]) hx hb dX2_mulWord_29 hl (by decide) rfl (fun ls hl => ?_)
      refine lv_aload_n hx hb dX2_mulWord_31 rfl (lv_at hl 5 rfl) ?_
      refine lv_iload hx hb dX2_mulWord_32 (lv_at hl 1 rfl) ?_
      refine lv_lload hx hb dX2_mulWord_34 (lv_at hl 0 rfl) ?_
      refine lv_l2i (v := (wn_cw (wn_gM (wn_w w) y)) i) hx hb dX2_mulWord_36 (lN_i _) ?_
      refine wr_iast hx hb hK hP hD hS (wr_set_at h3) (by omega) (b3) ((ws.set i3 (wr_i dI a3 n3 (wr_f (wn_cw (wn_gM (wn_w w) y)) z (i + 1))))) (by rw [wr_set_set, wr_fu]) dX2_mulWord_37 (fun H locs hP hD hS => ?_)
      refine lv_lload hx hb dX2_mulWord_38 (lv_at hl 0 rfl) ?_
      refine lv_bipush (v := 32) hx hb dX2_mulWord_40 (by decide) ?_
      refine lv_lushr (v := lN (wn_c (wn_gM (wn_w w) y) (i + 1))) hx hb dX2_mulWord_42 (wn_shr32 (by have h8 := wn_c_lt (wn_gM_le hw y) i; have h9 := wn_gM_le hw y i; omega)) ?_
      refine lv_lstore (lv' := [(4, .long (lN (wn_c (wn_gM (wn_w w) y) (i + 1)))), (8, .int (nI i)), (6, .long (lN (wn_w w))), (0, .int (nI n)), (2, .ref a2), (3, .ref a3)]) hx hb dX2_mulWord_43 hl (by decide) rfl (fun ls hl => ?_)
      refine lv_iinc (v := nI (i + 1)) (lv' := [(8, .int (nI (i + 1))), (4, .long (lN (wn_c (wn_gM (wn_w w) y) (i + 1)))), (6, .long (lN (wn_w w))), (0, .int (nI n)), (2, .ref a2), (3, .ref a3)]) hx hb dX2_mulWord_45 hl (k := 1) rfl (wn_inc i) (by decide) rfl (fun ls hl => ?_)
      refine lv_iload hx hb dX2_mulWord_48 (lv_at hl 0 rfl) ?_
      refine lv_iload_n hx hb dX2_mulWord_50 rfl (lv_at hl 3 rfl) ?_
      refine lv_icmp_lt (tgt := 14) hx hb dX2_mulWord_51 (by decide) (fun _ => ?_) (fun q_ => absurd (nI_lt (show i + 1 < n by omega) hB) q_)
      exact ih (i + 1) H locs ls (by omega) hP hD hS (lv_sub hl [0, 1, 2, 3, 4, 5] rfl)
  have e0 : (ws.set i3 (wr_i dI a3 n3 (wr_f (wn_cw (wn_gM (wn_w w) y)) z 0))) = ws := by rw [wr_f0]; exact wr_set_self h3
  exact loop (n - 1) 0 s.heap [] ls (by omega) (by rw [e0]; exact hP) (by rw [e0]; exact hD) hS (lv_sub hl [0, 2, 1, 3, 5, 6] rfl)

set_option maxHeartbeats 4000000 in
set_option maxRecDepth 100000 in
/-- Nat.mulWordAddTo: a word times a row, added in from a place on -/
theorem m_mulWordAddTo (l : Launch) (D : va_G) (dI dF : ClassId) (ws : va_W) (sz : Nat) (n o i2 i3 a2 a3 n2 n3 : Nat) (w : Int32) (y z : Nat → Int32) (h2 : ws[i2]? = some (wr_i dI a2 n2 y)) (h3 : ws[i3]? = some (wr_i dI a3 n3 z)) (hne : i2 ≠ i3) (hn : 1 ≤ n) (l2 : n ≤ n2) (l3 : o + n ≤ n3) (b2 : n2 < 2 ^ 31) (b3 : n3 < 2 ^ 31) : Met l yX2_mulWordAddTo (ws_ yX2_mulWordAddTo cX2_mulWordAddTo 11 (some .int)) wr_r0 (wr_Pc D dI dF [.int (nI n), .int w, .ref a2, .int (nI 0), .ref a3, .int (nI o)] ws sz) (va_Qi (fun (r : Int32) (_ : Unit) => r = nI (wn_c (wn_gT (wn_w w) y (fun j => z (o + j))) n)) (fun _ t => wr_B D (va_A ws sz) (ws.set i3 (wr_i dI a3 n3 (wr_g (wn_cw (wn_gT (wn_w w) y (fun j => z (o + j)))) z o n))) t) (va_A ws sz)) 0 0 (va_A ws sz) := by
  refine Met.ofW (cc := cX2_mulWordAddTo) (maxL := 11) (ret := (some .int)) (by decide) rfl ?_
  intro p e s m args below meth c s₁ B hml hv
  obtain ⟨rfl, hsz, hP, hK, hD0⟩ := hv
  have hx := B.exec
  have hb := B.bytes
  have hr := B.returns
  have hts := atoms_spec (ws := ws_ yX2_mulWordAddTo cX2_mulWordAddTo 11 (some .int)) B.pre
  have hts : ∀ w ∈ lw_all, w.before _ s = true := fun w h => hts w (List.mem_cons_of_mem _ h)
  have hown : s.vm.findClass RX2 = some m.cls := findClass_of_methodNamed B.named
  have hlocks := B.notSynchronized
  subst hsz
  have hD := hD0.self (sz := s.heap.size)
  generalize hAe : va_A ws s.heap.size = A at hD ⊢
  have hA : ∀ q : Nat, s.heap.size ≤ q → A q := fun q h => by rw [← hAe]; exact Or.inr h
  have hS : va_S A s.heap s.heap [] := va_S.rf
  have hl := lv_entry ([.int (nI n), .int w, .ref a2, .int (nI 0), .ref a3, .int (nI o)]) (n := 11) (Nat.le_of_ble_eq_true rfl)
  rw [lg_entry_eq]
  generalize (lg_sl ([.int (nI n), .int w, .ref a2, .int (nI 0), .ref a3, .int (nI o)]) ++ List.replicate (11 - (lg_sl ([.int (nI n), .int w, .ref a2, .int (nI 0), .ref a3, .int (nI o)])).length) Slot.unset).toArray = ls at hl ⊢
  have hl : lv_has ls 11 [(0, .int (nI n)), (1, .int w), (2, .ref a2), (3, .int (nI 0)), (4, .ref a3), (5, .int (nI o))] := hl
  refine lv_lconst (v := lN 0) hx hb dX2_mulWordAddTo_0 (by decide) ?_
  refine lv_lstore (lv' := [(6, .long (lN 0)), (0, .int (nI n)), (1, .int w), (2, .ref a2), (3, .int (nI 0)), (4, .ref a3), (5, .int (nI o))]) hx hb dX2_mulWordAddTo_1 hl (by decide) rfl (fun ls hl => ?_)
  refine lv_iload_n hx hb dX2_mulWordAddTo_3 rfl (lv_at hl 2 rfl) ?_
  refine lv_i2l (v := w.toInt64) hx hb dX2_mulWordAddTo_4 (rfl) ?_
  refine lv_ldc2 (v := 4294967295) hx hb hown (hts _ q14) dX2_mulWordAddTo_5 ?_
  refine lv_land hx hb dX2_mulWordAddTo_8 ?_
  refine wr_topl (lN (wn_w w)) (wn_i2l w) ?_
  refine lv_lstore (lv' := [(8, .long (lN (wn_w w))), (6, .long (lN 0)), (0, .int (nI n)), (1, .int w), (2, .ref a2), (3, .int (nI 0)), (4, .ref a3), (5, .int (nI o))]) hx hb dX2_mulWordAddTo_9 hl (by decide) rfl (fun ls hl => ?_)
  refine lv_iconst (v := nI 0) hx hb dX2_mulWordAddTo_11 (by decide) ?_
  refine lv_istore (lv' := [(10, .int (nI 0)), (8, .long (lN (wn_w w))), (6, .long (lN 0)), (0, .int (nI n)), (1, .int w), (2, .ref a2), (3, .int (nI 0)), (4, .ref a3), (5, .int (nI o))]) hx hb dX2_mulWordAddTo_12 hl (by decide) rfl (fun ls hl => ?_)
  have hB : n < 2 ^ 31 := by omega
  have hw := wn_w_lt w
  have loop : ∀ (k i : Nat) (H : Heap) (locs : List Loc) (ls : Array Slot), i + (k + 1) = n → va_P D vwCl (ws.set i3 (wr_i dI a3 n3 (wr_g (wn_cw (wn_gT (wn_w w) y (fun j => z (o + j)))) z o i))) H → va_D A (ws.set i3 (wr_i dI a3 n3 (wr_g (wn_cw (wn_gT (wn_w w) y (fun j => z (o + j)))) z o i))) → va_S A s.heap H locs → lv_has ls 11 [(10, .int (nI i)), (6, .long (lN (wn_c (wn_gT (wn_w w) y (fun j => z (o + j))) i))), (8, .long (lN (wn_w w))), (0, .int (nI n)), (2, .ref a2), (3, .int (nI 0)), (4, .ref a3), (5, .int (nI o))] → W p l e (headSpec (ws_ yX2_mulWordAddTo cX2_mulWordAddTo 11 (some .int)) wr_r0).room s m (([.int (nI n), .int w, .ref a2, .int (nI 0), .ref a3, .int (nI o)] : List Value).toArray) below meth c H locs 0 0 (MQ below (va_Qi (fun (r : Int32) (_ : Unit) => r = nI (wn_c (wn_gT (wn_w w) y (fun j => z (o + j))) n)) (fun _ t => wr_B D A (ws.set i3 (wr_i dI a3 n3 (wr_g (wn_cw (wn_gT (wn_w w) y (fun j => z (o + j)))) z o n))) t) A) (([.int (nI n), .int w, .ref a2, .int (nI 0), .ref a3, .int (nI o)] : List Value).toArray) s 0 0 A) (F0 m 14 ls []) := by
    intro k
    induction k with
    | zero =>
      intro i H locs ls hik hP hD hS hl
      have hi : i < n := by omega
      have e2 : (ws.set i3 (wr_i dI a3 n3 (wr_g (wn_cw (wn_gT (wn_w w) y (fun j => z (o + j)))) z o i)))[i2]? = some (wr_i dI a2 n2 y) := (wr_set_ne hne).trans h2
      have v3 : wr_g (wn_cw (wn_gT (wn_w w) y (fun j => z (o + j)))) z o i (o + i) = z (o + i) := wr_gi _ _ (Nat.le_refl i)
      refine lv_lload hx hb dX2_mulWordAddTo_14 (lv_at hl 1 rfl) ?_
      refine lv_lload hx hb dX2_mulWordAddTo_16 (lv_at hl 2 rfl) ?_
      refine lv_aload_n hx hb dX2_mulWordAddTo_18 rfl (lv_at hl 4 rfl) ?_
      refine lv_iload_n hx hb dX2_mulWordAddTo_19 rfl (lv_at hl 5 rfl) ?_
      refine lv_iload hx hb dX2_mulWordAddTo_20 (lv_at hl 0 rfl) ?_
      refine lv_iadd hx hb dX2_mulWordAddTo_22 ?_
      refine wr_topi (nI i) (by rw [nI_add, Nat.zero_add]) ?_
      refine wr_iald hx hb hK hP e2 (by omega) (b2) dX2_mulWordAddTo_23 ?_
      refine lv_i2l (v := (y i).toInt64) hx hb dX2_mulWordAddTo_24 (rfl) ?_
      refine lv_ldc2 (v := 4294967295) hx hb hown (hts _ q14) dX2_mulWordAddTo_25 ?_
      refine lv_land hx hb dX2_mulWordAddTo_28 ?_
      refine wr_topl (lN (wn_w (y i))) (wn_i2l _) ?_
      refine lv_lmul hx hb dX2_mulWordAddTo_29 ?_
      refine wr_topl (lN ((wn_w w) * wn_w (y i))) (lN_mul _ _) ?_
      refine lv_aload hx hb dX2_mulWordAddTo_30 (lv_at hl 6 rfl) ?_
      refine lv_iload hx hb dX2_mulWordAddTo_32 (lv_at hl 7 rfl) ?_
      refine lv_iload hx hb dX2_mulWordAddTo_34 (lv_at hl 0 rfl) ?_
      refine lv_iadd hx hb dX2_mulWordAddTo_36 ?_
      refine wr_topi (nI (o + i)) (nI_add _ _) ?_
      refine wr_iald hx hb hK hP (wr_set_at h3) (by omega) (b3) dX2_mulWordAddTo_37 ?_
      refine lv_i2l (v := (wr_g (wn_cw (wn_gT (wn_w w) y (fun j => z (o + j)))) z o i (o + i)).toInt64) hx hb dX2_mulWordAddTo_38 (rfl) ?_
      refine lv_ldc2 (v := 4294967295) hx hb hown (hts _ q14) dX2_mulWordAddTo_39 ?_
      refine lv_land hx hb dX2_mulWordAddTo_42 ?_
      refine wr_topl (lN (wn_w (z (o + i)))) (by rw [v3]; exact wn_i2l _) ?_
      refine lv_ladd hx hb dX2_mulWordAddTo_43 ?_
      refine wr_topl (lN ((wn_gT (wn_w w) y (fun j => z (o + j))) i)) (lN_add _ _) ?_
      refine lv_ladd hx hb dX2_mulWordAddTo_44 ?_
      refine wr_topl (lN (wn_c (wn_gT (wn_w w) y (fun j => z (o + j))) i + (wn_gT (wn_w w) y (fun j => z (o + j))) i)) (lN_add _ _) ?_
      refine lv_lstore (lv' := [(6, .long (lN (wn_c (wn_gT (wn_w w) y (fun j => z (o + j))) i + (wn_gT (wn_w w) y (fun j => z (o + j))) i))), (10, .int (nI i)), (8, .long (lN (wn_w w))), (0, .int (nI n)), (2, .ref a2), (3, .int (nI 0)), (4, .ref a3), (5, .int (nI o))]) hx hb dX2_mulWordAddTo_45 hl (by decide) rfl (fun ls hl => ?_)
      refine lv_aload hx hb dX2_mulWordAddTo_47 (lv_at hl 6 rfl) ?_
      refine lv_iload hx hb dX2_mulWordAddTo_49 (lv_at hl 7 rfl) ?_
      refine lv_iload hx hb dX2_mulWordAddTo_51 (lv_at hl 1 rfl) ?_
      refine lv_iadd hx hb dX2_mulWordAddTo_53 ?_
      refine wr_topi (nI (o + i)) (nI_add _ _) ?_
      refine lv_lload hx hb dX2_mulWordAddTo_54 (lv_at hl 0 rfl) ?_
      refine lv_l2i (v := (wn_cw (wn_gT (wn_w w) y (fun j => z (o + j)))) i) hx hb dX2_mulWordAddTo_56 (lN_i _) ?_
      refine wr_iast hx hb hK hP hD hS (wr_set_at h3) (by omega) (b3) ((ws.set i3 (wr_i dI a3 n3 (wr_g (wn_cw (wn_gT (wn_w w) y (fun j => z (o + j)))) z o (i + 1))))) (by rw [wr_set_set, wr_gu]) dX2_mulWordAddTo_57 (fun H locs hP hD hS => ?_)
      refine lv_lload hx hb dX2_mulWordAddTo_58 (lv_at hl 0 rfl) ?_
      refine lv_bipush (v := 32) hx hb dX2_mulWordAddTo_60 (by decide) ?_
      refine lv_lushr (v := lN (wn_c (wn_gT (wn_w w) y (fun j => z (o + j))) (i + 1))) hx hb dX2_mulWordAddTo_62 (wn_shr32 (by have h8 := wn_c_lt (wn_gT_le hw y (fun j => z (o + j))) i; have h9 := wn_gT_le hw y (fun j => z (o + j)) i; omega)) ?_
      refine lv_lstore (lv' := [(6, .long (lN (wn_c (wn_gT (wn_w w) y (fun j => z (o + j))) (i + 1)))), (10, .int (nI i)), (8, .long (lN (wn_w w))), (0, .int (nI n)), (2, .ref a2), (3, .int (nI 0)), (4, .ref a3), (5, .int (nI o))]) hx hb dX2_mulWordAddTo_63 hl (by decide) rfl (fun ls hl => ?_)
      refine lv_iinc (v := nI (i + 1)) (lv' := [(10, .int (nI (i + 1))), (6, .long (lN (wn_c (wn_gT (wn_w w) y (fun j => z (o + j))) (i + 1)))), (8, .long (lN (wn_w w))), (0, .int (nI n)), (2, .ref a2), (3, .int (nI 0)), (4, .ref a3), (5, .int (nI o))]) hx hb dX2_mulWordAddTo_65 hl (k := 1) rfl (wn_inc i) (by decide) rfl (fun ls hl => ?_)
      refine lv_iload hx hb dX2_mulWordAddTo_68 (lv_at hl 0 rfl) ?_
      refine lv_iload_n hx hb dX2_mulWordAddTo_70 rfl (lv_at hl 3 rfl) ?_
      refine lv_icmp_lt (tgt := 14) hx hb dX2_mulWordAddTo_71 (by decide) (fun q_ => absurd q_ (nI_nlt (show n ≤ i + 1 by omega) (by omega))) (fun _ => ?_)
      have hin : i + 1 = n := by omega
      rw [hin] at hP hD hl
      refine lv_lload hx hb dX2_mulWordAddTo_74 (lv_at hl 1 rfl) ?_
      refine lv_l2i (v := nI (wn_c (wn_gT (wn_w w) y (fun j => z (o + j))) n)) hx hb dX2_mulWordAddTo_76 (lN_i _) ?_
      exact wr_iret () hx hb hr hlocks hP hD hS (rfl) (Nat.zero_le _) (Nat.zero_le _) dX2_mulWordAddTo_77
    | succ k ih =>
      intro i H locs ls hik hP hD hS hl
      have hi : i < n := by omega
      have e2 : (ws.set i3 (wr_i dI a3 n3 (wr_g (wn_cw (wn_gT (wn_w w) y (fun j => z (o + j)))) z o i)))[i2]? = some (wr_i dI a2 n2 y) := (wr_set_ne hne).trans h2
      have v3 : wr_g (wn_cw (wn_gT (wn_w w) y (fun j => z (o + j)))) z o i (o + i) = z (o + i) := wr_gi _ _ (Nat.le_refl i)
      refine lv_lload hx hb dX2_mulWordAddTo_14 (lv_at hl 1 rfl) ?_
      refine lv_lload hx hb dX2_mulWordAddTo_16 (lv_at hl 2 rfl) ?_
      refine lv_aload_n hx hb dX2_mulWordAddTo_18 rfl (lv_at hl 4 rfl) ?_
      refine lv_iload_n hx hb dX2_mulWordAddTo_19 rfl (lv_at hl 5 rfl) ?_
      refine lv_iload hx hb dX2_mulWordAddTo_20 (lv_at hl 0 rfl) ?_
      refine lv_iadd hx hb dX2_mulWordAddTo_22 ?_
      refine wr_topi (nI i) (by rw [nI_add, Nat.zero_add]) ?_
      refine wr_iald hx hb hK hP e2 (by omega) (b2) dX2_mulWordAddTo_23 ?_
      refine lv_i2l (v := (y i).toInt64) hx hb dX2_mulWordAddTo_24 (rfl) ?_
      refine lv_ldc2 (v := 4294967295) hx hb hown (hts _ q14) dX2_mulWordAddTo_25 ?_
      refine lv_land hx hb dX2_mulWordAddTo_28 ?_
      refine wr_topl (lN (wn_w (y i))) (wn_i2l _) ?_
      refine lv_lmul hx hb dX2_mulWordAddTo_29 ?_
      refine wr_topl (lN ((wn_w w) * wn_w (y i))) (lN_mul _ _) ?_
      refine lv_aload hx hb dX2_mulWordAddTo_30 (lv_at hl 6 rfl) ?_
      refine lv_iload hx hb dX2_mulWordAddTo_32 (lv_at hl 7 rfl) ?_
      refine lv_iload hx hb dX2_mulWordAddTo_34 (lv_at hl 0 rfl) ?_
      refine lv_iadd hx hb dX2_mulWordAddTo_36 ?_
      refine wr_topi (nI (o + i)) (nI_add _ _) ?_
      refine wr_iald hx hb hK hP (wr_set_at h3) (by omega) (b3) dX2_mulWordAddTo_37 ?_
      refine lv_i2l (v := (wr_g (wn_cw (wn_gT (wn_w w) y (fun j => z (o + j)))) z o i (o + i)).toInt64) hx hb dX2_mulWordAddTo_38 (rfl) ?_
      refine lv_ldc2 (v := 4294967295) hx hb hown (hts _ q14) dX2_mulWordAddTo_39 ?_
      refine lv_land hx hb dX2_mulWordAddTo_42 ?_
      refine wr_topl (lN (wn_w (z (o + i)))) (by rw [v3]; exact wn_i2l _) ?_
      refine lv_ladd hx hb dX2_mulWordAddTo_43 ?_
      refine wr_topl (lN ((wn_gT (wn_w w) y (fun j => z (o + j))) i)) (lN_add _ _) ?_
      refine lv_ladd hx hb dX2_mulWordAddTo_44 ?_
      refine wr_topl (lN (wn_c (wn_gT (wn_w w) y (fun j => z (o + j))) i + (wn_gT (wn_w w) y (fun j => z (o + j))) i)) (lN_add _ _) ?_
      refine lv_lstore (lv' := [(6, .long (lN (wn_c (wn_gT (wn_w w) y (fun j => z (o + j))) i + (wn_gT (wn_w w) y (fun j => z (o + j))) i))), (10, .int (nI i)), (8, .long (lN (wn_w w))), (0, .int (nI n)), (2, .ref a2), (3, .int (nI 0)), (4, .ref a3), (5, .int (nI o))]) hx hb dX2_mulWordAddTo_45 hl (by decide) rfl (fun ls hl => ?_)
      refine lv_aload hx hb dX2_mulWordAddTo_47 (lv_at hl 6 rfl) ?_
      refine lv_iload hx hb dX2_mulWordAddTo_49 (lv_at hl 7 rfl) ?_
      refine lv_iload hx hb dX2_mulWordAddTo_51 (lv_at hl 1 rfl) ?_
      refine lv_iadd hx hb dX2_mulWordAddTo_53 ?_
      refine wr_topi (nI (o + i)) (nI_add _ _) ?_
      refine lv_lload hx hb dX2_mulWordAddTo_54 (lv_at hl 0 rfl) ?_
      refine lv_l2i (v := (wn_cw (wn_gT (wn_w w) y (fun j => z (o + j)))) i) hx hb dX2_mulWordAddTo_56 (lN_i _) ?_
      refine wr_iast hx hb hK hP hD hS (wr_set_at h3) (by omega) (b3) ((ws.set i3 (wr_i dI a3 n3 (wr_g (wn_cw (wn_gT (wn_w w) y (fun j => z (o + j)))) z o (i + 1))))) (by rw [wr_set_set, wr_gu]) dX2_mulWordAddTo_57 (fun H locs hP hD hS => ?_)
      refine lv_lload hx hb dX2_mulWordAddTo_58 (lv_at hl 0 rfl) ?_
      refine lv_bipush (v := 32) hx hb dX2_mulWordAddTo_60 (by decide) ?_
      refine lv_lushr (v := lN (wn_c (wn_gT (wn_w w) y (fun j => z (o + j))) (i + 1))) hx hb dX2_mulWordAddTo_62 (wn_shr32 (by have h8 := wn_c_lt (wn_gT_le hw y (fun j => z (o + j))) i; have h9 := wn_gT_le hw y (fun j => z (o + j)) i; omega)) ?_
      refine lv_lstore (lv' := [(6, .long (lN (wn_c (wn_gT (wn_w w) y (fun j => z (o + j))) (i + 1)))), (10, .int (nI i)), (8, .long (lN (wn_w w))), (0, .int (nI n)), (2, .ref a2), (3, .int (nI 0)), (4, .ref a3), (5, .int (nI o))]) hx hb dX2_mulWordAddTo_63 hl (by decide) rfl (fun ls hl => ?_)
      refine lv_iinc (v := nI (i + 1)) (lv' := [(10, .int (nI (i + 1))), (6, .long (lN (wn_c (wn_gT (wn_w w) y (fun j => z (o + j))) (i + 1)))), (8, .long (lN (wn_w w))), (0, .int (nI n)), (2, .ref a2), (3, .int (nI 0)), (4, .ref a3), (5, .int (nI o))]) hx hb dX2_mulWordAddTo_65 hl (k := 1) rfl (wn_inc i) (by decide) rfl (fun ls hl => ?_)
      refine lv_iload hx hb dX2_mulWordAddTo_68 (lv_at hl 0 rfl) ?_
      refine lv_iload_n hx hb dX2_mulWordAddTo_70 rfl (lv_at hl 3 rfl) ?_
      refine lv_icmp_lt (tgt := 14) hx hb dX2_mulWordAddTo_71 (by decide) (fun _ => ?_) (fun q_ => absurd (nI_lt (show i + 1 < n by omega) hB) q_)
      exact ih (i + 1) H locs ls (by omega) hP hD hS (lv_sub hl [0, 1, 2, 3, 4, 5, 6, 7] rfl)
  have e0 : (ws.set i3 (wr_i dI a3 n3 (wr_g (wn_cw (wn_gT (wn_w w) y (fun j => z (o + j)))) z o 0))) = ws := by rw [wr_g0]; exact wr_set_self h3
  exact loop (n - 1) 0 s.heap [] ls (by omega) (by rw [e0]; exact hP) (by rw [e0]; exact hD) hS (lv_sub hl [0, 2, 1, 3, 5, 6, 7, 8] rfl)

set_option maxHeartbeats 4000000 in
set_option maxRecDepth 100000 in
/-- Nat.squareWordAddTo: a row times its own word, the words below it, added in -/
theorem m_squareWordAddTo (l : Launch) (D : va_G) (dI dF : ClassId) (ws : va_W) (sz : Nat) (o i2 i3 a2 a3 n2 n3 : Nat) (y z : Nat → Int32) (h2 : ws[i2]? = some (wr_i dI a2 n2 y)) (h3 : ws[i3]? = some (wr_i dI a3 n3 z)) (hne : i2 ≠ i3) (hn : 1 ≤ o) (l2 : o < n2) (l3 : o + o ≤ n3) (b2 : n2 < 2 ^ 31) (b3 : n3 < 2 ^ 31) : Met l yX2_squareWordAddTo (ws_ yX2_squareWordAddTo cX2_squareWordAddTo 8 (some .int)) wr_r0 (wr_Pc D dI dF [.ref a2, .int (nI o), .ref a3] ws sz) (va_Qi (fun (r : Int32) (_ : Unit) => r = nI (wn_c (wn_gT (wn_w (y o)) y (fun j => z (o + j))) o)) (fun _ t => wr_B D (va_A ws sz) (ws.set i3 (wr_i dI a3 n3 (wr_g (wn_cw (wn_gT (wn_w (y o)) y (fun j => z (o + j)))) z o o))) t) (va_A ws sz)) 0 0 (va_A ws sz) := by
  refine Met.ofW (cc := cX2_squareWordAddTo) (maxL := 8) (ret := (some .int)) (by decide) rfl ?_
  intro p e s m args below meth c s₁ B hml hv
  obtain ⟨rfl, hsz, hP, hK, hD0⟩ := hv
  have hx := B.exec
  have hb := B.bytes
  have hr := B.returns
  have hts := atoms_spec (ws := ws_ yX2_squareWordAddTo cX2_squareWordAddTo 8 (some .int)) B.pre
  have hts : ∀ w ∈ lw_all, w.before _ s = true := fun w h => hts w (List.mem_cons_of_mem _ h)
  have hown : s.vm.findClass RX2 = some m.cls := findClass_of_methodNamed B.named
  have hlocks := B.notSynchronized
  subst hsz
  have hD := hD0.self (sz := s.heap.size)
  generalize hAe : va_A ws s.heap.size = A at hD ⊢
  have hA : ∀ q : Nat, s.heap.size ≤ q → A q := fun q h => by rw [← hAe]; exact Or.inr h
  have hS : va_S A s.heap s.heap [] := va_S.rf
  have hl := lv_entry ([.ref a2, .int (nI o), .ref a3]) (n := 8) (Nat.le_of_ble_eq_true rfl)
  rw [lg_entry_eq]
  generalize (lg_sl ([.ref a2, .int (nI o), .ref a3]) ++ List.replicate (8 - (lg_sl ([.ref a2, .int (nI o), .ref a3])).length) Slot.unset).toArray = ls at hl ⊢
  have hl : lv_has ls 8 [(0, .ref a2), (1, .int (nI o)), (2, .ref a3)] := hl
  refine lv_lconst (v := lN 0) hx hb dX2_squareWordAddTo_0 (by decide) ?_
  refine lv_lstore_n (lv' := [(3, .long (lN 0)), (0, .ref a2), (1, .int (nI o)), (2, .ref a3)]) hx hb dX2_squareWordAddTo_1 rfl hl (by decide) rfl (fun ls hl => ?_)
  refine lv_aload_n hx hb dX2_squareWordAddTo_2 rfl (lv_at hl 1 rfl) ?_
  refine lv_iload_n hx hb dX2_squareWordAddTo_3 rfl (lv_at hl 2 rfl) ?_
  refine wr_iald hx hb hK hP h2 (l2) (b2) dX2_squareWordAddTo_4 ?_
  refine lv_i2l (v := (y o).toInt64) hx hb dX2_squareWordAddTo_5 (rfl) ?_
  refine lv_ldc2 (v := 4294967295) hx hb hown (hts _ q14) dX2_squareWordAddTo_6 ?_
  refine lv_land hx hb dX2_squareWordAddTo_9 ?_
  refine wr_topl (lN (wn_w (y o))) (wn_i2l _) ?_
  refine lv_lstore (lv' := [(5, .long (lN (wn_w (y o)))), (3, .long (lN 0)), (0, .ref a2), (1, .int (nI o)), (2, .ref a3)]) hx hb dX2_squareWordAddTo_10 hl (by decide) rfl (fun ls hl => ?_)
  refine lv_iconst (v := nI 0) hx hb dX2_squareWordAddTo_12 (by decide) ?_
  refine lv_istore (lv' := [(7, .int (nI 0)), (5, .long (lN (wn_w (y o)))), (3, .long (lN 0)), (0, .ref a2), (1, .int (nI o)), (2, .ref a3)]) hx hb dX2_squareWordAddTo_13 hl (by decide) rfl (fun ls hl => ?_)
  have hB : o < 2 ^ 31 := by omega
  have hw := wn_w_lt (y o)
  have loop : ∀ (k i : Nat) (H : Heap) (locs : List Loc) (ls : Array Slot), i + (k + 1) = o → va_P D vwCl (ws.set i3 (wr_i dI a3 n3 (wr_g (wn_cw (wn_gT (wn_w (y o)) y (fun j => z (o + j)))) z o i))) H → va_D A (ws.set i3 (wr_i dI a3 n3 (wr_g (wn_cw (wn_gT (wn_w (y o)) y (fun j => z (o + j)))) z o i))) → va_S A s.heap H locs → lv_has ls 8 [(7, .int (nI i)), (3, .long (lN (wn_c (wn_gT (wn_w (y o)) y (fun j => z (o + j))) i))), (5, .long (lN (wn_w (y o)))), (0, .ref a2), (1, .int (nI o)), (2, .ref a3)] → W p l e (headSpec (ws_ yX2_squareWordAddTo cX2_squareWordAddTo 8 (some .int)) wr_r0).room s m (([.ref a2, .int (nI o), .ref a3] : List Value).toArray) below meth c H locs 0 0 (MQ below (va_Qi (fun (r : Int32) (_ : Unit) => r = nI (wn_c (wn_gT (wn_w (y o)) y (fun j => z (o + j))) o)) (fun _ t => wr_B D A (ws.set i3 (wr_i dI a3 n3 (wr_g (wn_cw (wn_gT (wn_w (y o)) y (fun j => z (o + j)))) z o o))) t) A) (([.ref a2, .int (nI o), .ref a3] : List Value).toArray) s 0 0 A) (F0 m 15 ls []) := by
    intro k
    induction k with
    | zero =>
      intro i H locs ls hik hP hD hS hl
      have hi : i < o := by omega
      have e2 : (ws.set i3 (wr_i dI a3 n3 (wr_g (wn_cw (wn_gT (wn_w (y o)) y (fun j => z (o + j)))) z o i)))[i2]? = some (wr_i dI a2 n2 y) := (wr_set_ne hne).trans h2
      have v3 : wr_g (wn_cw (wn_gT (wn_w (y o)) y (fun j => z (o + j)))) z o i (o + i) = z (o + i) := wr_gi _ _ (Nat.le_refl i)
      refine lv_lload_n hx hb dX2_squareWordAddTo_15 rfl (lv_at hl 1 rfl) ?_
      refine lv_lload hx hb dX2_squareWordAddTo_16 (lv_at hl 2 rfl) ?_
      refine lv_aload_n hx hb dX2_squareWordAddTo_18 rfl (lv_at hl 3 rfl) ?_
      refine lv_iload hx hb dX2_squareWordAddTo_19 (lv_at hl 0 rfl) ?_
      refine wr_iald hx hb hK hP e2 (by omega) (b2) dX2_squareWordAddTo_21 ?_
      refine lv_i2l (v := (y i).toInt64) hx hb dX2_squareWordAddTo_22 (rfl) ?_
      refine lv_ldc2 (v := 4294967295) hx hb hown (hts _ q14) dX2_squareWordAddTo_23 ?_
      refine lv_land hx hb dX2_squareWordAddTo_26 ?_
      refine wr_topl (lN (wn_w (y i))) (wn_i2l _) ?_
      refine lv_lmul hx hb dX2_squareWordAddTo_27 ?_
      refine wr_topl (lN ((wn_w (y o)) * wn_w (y i))) (lN_mul _ _) ?_
      refine lv_aload_n hx hb dX2_squareWordAddTo_28 rfl (lv_at hl 5 rfl) ?_
      refine lv_iload_n hx hb dX2_squareWordAddTo_29 rfl (lv_at hl 4 rfl) ?_
      refine lv_iload hx hb dX2_squareWordAddTo_30 (lv_at hl 0 rfl) ?_
      refine lv_iadd hx hb dX2_squareWordAddTo_32 ?_
      refine wr_topi (nI (o + i)) (nI_add _ _) ?_
      refine wr_iald hx hb hK hP (wr_set_at h3) (by omega) (b3) dX2_squareWordAddTo_33 ?_
      refine lv_i2l (v := (wr_g (wn_cw (wn_gT (wn_w (y o)) y (fun j => z (o + j)))) z o i (o + i)).toInt64) hx hb dX2_squareWordAddTo_34 (rfl) ?_
      refine lv_ldc2 (v := 4294967295) hx hb hown (hts _ q14) dX2_squareWordAddTo_35 ?_
      refine lv_land hx hb dX2_squareWordAddTo_38 ?_
      refine wr_topl (lN (wn_w (z (o + i)))) (by rw [v3]; exact wn_i2l _) ?_
      refine lv_ladd hx hb dX2_squareWordAddTo_39 ?_
      refine wr_topl (lN ((wn_gT (wn_w (y o)) y (fun j => z (o + j))) i)) (lN_add _ _) ?_
      refine lv_ladd hx hb dX2_squareWordAddTo_40 ?_
      refine wr_topl (lN (wn_c (wn_gT (wn_w (y o)) y (fun j => z (o + j))) i + (wn_gT (wn_w (y o)) y (fun j => z (o + j))) i)) (lN_add _ _) ?_
      refine lv_lstore_n (lv' := [(3, .long (lN (wn_c (wn_gT (wn_w (y o)) y (fun j => z (o + j))) i + (wn_gT (wn_w (y o)) y (fun j => z (o + j))) i))), (7, .int (nI i)), (5, .long (lN (wn_w (y o)))), (0, .ref a2), (1, .int (nI o)), (2, .ref a3)]) hx hb dX2_squareWordAddTo_41 rfl hl (by decide) rfl (fun ls hl => ?_)
      refine lv_aload_n hx hb dX2_squareWordAddTo_42 rfl (lv_at hl 5 rfl) ?_
      refine lv_iload_n hx hb dX2_squareWordAddTo_43 rfl (lv_at hl 4 rfl) ?_
      refine lv_iload hx hb dX2_squareWordAddTo_44 (lv_at hl 1 rfl) ?_
      refine lv_iadd hx hb dX2_squareWordAddTo_46 ?_
      refine wr_topi (nI (o + i)) (nI_add _ _) ?_
      refine lv_lload_n hx hb dX2_squareWordAddTo_47 rfl (lv_at hl 0 rfl) ?_
      refine lv_l2i (v := (wn_cw (wn_gT (wn_w (y o)) y (fun j => z (o + j)))) i) hx hb dX2_squareWordAddTo_48 (lN_i _) ?_
      refine wr_iast hx hb hK hP hD hS (wr_set_at h3) (by omega) (b3) ((ws.set i3 (wr_i dI a3 n3 (wr_g (wn_cw (wn_gT (wn_w (y o)) y (fun j => z (o + j)))) z o (i + 1))))) (by rw [wr_set_set, wr_gu]) dX2_squareWordAddTo_49 (fun H locs hP hD hS => ?_)
      refine lv_lload_n hx hb dX2_squareWordAddTo_50 rfl (lv_at hl 0 rfl) ?_
      refine lv_bipush (v := 32) hx hb dX2_squareWordAddTo_51 (by decide) ?_
      refine lv_lushr (v := lN (wn_c (wn_gT (wn_w (y o)) y (fun j => z (o + j))) (i + 1))) hx hb dX2_squareWordAddTo_53 (wn_shr32 (by have h8 := wn_c_lt (wn_gT_le hw y (fun j => z (o + j))) i; have h9 := wn_gT_le hw y (fun j => z (o + j)) i; omega)) ?_
      refine lv_lstore_n (lv' := [(3, .long (lN (wn_c (wn_gT (wn_w (y o)) y (fun j => z (o + j))) (i + 1)))), (7, .int (nI i)), (5, .long (lN (wn_w (y o)))), (0, .ref a2), (1, .int (nI o)), (2, .ref a3)]) hx hb dX2_squareWordAddTo_54 rfl hl (by decide) rfl (fun ls hl => ?_)
      refine lv_iinc (v := nI (i + 1)) (lv' := [(7, .int (nI (i + 1))), (3, .long (lN (wn_c (wn_gT (wn_w (y o)) y (fun j => z (o + j))) (i + 1)))), (5, .long (lN (wn_w (y o)))), (0, .ref a2), (1, .int (nI o)), (2, .ref a3)]) hx hb dX2_squareWordAddTo_55 hl (k := 1) rfl (wn_inc i) (by decide) rfl (fun ls hl => ?_)
      refine lv_iload hx hb dX2_squareWordAddTo_58 (lv_at hl 0 rfl) ?_
      refine lv_iload_n hx hb dX2_squareWordAddTo_60 rfl (lv_at hl 4 rfl) ?_
      refine lv_icmp_lt (tgt := 15) hx hb dX2_squareWordAddTo_61 (by decide) (fun q_ => absurd q_ (nI_nlt (show o ≤ i + 1 by omega) (by omega))) (fun _ => ?_)
      have hin : i + 1 = o := by omega
      rw [hin] at hP hD hl
      refine lv_lload_n hx hb dX2_squareWordAddTo_64 rfl (lv_at hl 1 rfl) ?_
      refine lv_l2i (v := nI (wn_c (wn_gT (wn_w (y o)) y (fun j => z (o + j))) o)) hx hb dX2_squareWordAddTo_65 (lN_i _) ?_
      exact wr_iret () hx hb hr hlocks hP hD hS (rfl) (Nat.zero_le _) (Nat.zero_le _) dX2_squareWordAddTo_66
    | succ k ih =>
      intro i H locs ls hik hP hD hS hl
      have hi : i < o := by omega
      have e2 : (ws.set i3 (wr_i dI a3 n3 (wr_g (wn_cw (wn_gT (wn_w (y o)) y (fun j => z (o + j)))) z o i)))[i2]? = some (wr_i dI a2 n2 y) := (wr_set_ne hne).trans h2
      have v3 : wr_g (wn_cw (wn_gT (wn_w (y o)) y (fun j => z (o + j)))) z o i (o + i) = z (o + i) := wr_gi _ _ (Nat.le_refl i)
      refine lv_lload_n hx hb dX2_squareWordAddTo_15 rfl (lv_at hl 1 rfl) ?_
      refine lv_lload hx hb dX2_squareWordAddTo_16 (lv_at hl 2 rfl) ?_
      refine lv_aload_n hx hb dX2_squareWordAddTo_18 rfl (lv_at hl 3 rfl) ?_
      refine lv_iload hx hb dX2_squareWordAddTo_19 (lv_at hl 0 rfl) ?_
      refine wr_iald hx hb hK hP e2 (by omega) (b2) dX2_squareWordAddTo_21 ?_
      refine lv_i2l (v := (y i).toInt64) hx hb dX2_squareWordAddTo_22 (rfl) ?_
      refine lv_ldc2 (v := 4294967295) hx hb hown (hts _ q14) dX2_squareWordAddTo_23 ?_
      refine lv_land hx hb dX2_squareWordAddTo_26 ?_
      refine wr_topl (lN (wn_w (y i))) (wn_i2l _) ?_
      refine lv_lmul hx hb dX2_squareWordAddTo_27 ?_
      refine wr_topl (lN ((wn_w (y o)) * wn_w (y i))) (lN_mul _ _) ?_
      refine lv_aload_n hx hb dX2_squareWordAddTo_28 rfl (lv_at hl 5 rfl) ?_
      refine lv_iload_n hx hb dX2_squareWordAddTo_29 rfl (lv_at hl 4 rfl) ?_
      refine lv_iload hx hb dX2_squareWordAddTo_30 (lv_at hl 0 rfl) ?_
      refine lv_iadd hx hb dX2_squareWordAddTo_32 ?_
      refine wr_topi (nI (o + i)) (nI_add _ _) ?_
      refine wr_iald hx hb hK hP (wr_set_at h3) (by omega) (b3) dX2_squareWordAddTo_33 ?_
      refine lv_i2l (v := (wr_g (wn_cw (wn_gT (wn_w (y o)) y (fun j => z (o + j)))) z o i (o + i)).toInt64) hx hb dX2_squareWordAddTo_34 (rfl) ?_
      refine lv_ldc2 (v := 4294967295) hx hb hown (hts _ q14) dX2_squareWordAddTo_35 ?_
      refine lv_land hx hb dX2_squareWordAddTo_38 ?_
      refine wr_topl (lN (wn_w (z (o + i)))) (by rw [v3]; exact wn_i2l _) ?_
      refine lv_ladd hx hb dX2_squareWordAddTo_39 ?_
      refine wr_topl (lN ((wn_gT (wn_w (y o)) y (fun j => z (o + j))) i)) (lN_add _ _) ?_
      refine lv_ladd hx hb dX2_squareWordAddTo_40 ?_
      refine wr_topl (lN (wn_c (wn_gT (wn_w (y o)) y (fun j => z (o + j))) i + (wn_gT (wn_w (y o)) y (fun j => z (o + j))) i)) (lN_add _ _) ?_
      refine lv_lstore_n (lv' := [(3, .long (lN (wn_c (wn_gT (wn_w (y o)) y (fun j => z (o + j))) i + (wn_gT (wn_w (y o)) y (fun j => z (o + j))) i))), (7, .int (nI i)), (5, .long (lN (wn_w (y o)))), (0, .ref a2), (1, .int (nI o)), (2, .ref a3)]) hx hb dX2_squareWordAddTo_41 rfl hl (by decide) rfl (fun ls hl => ?_)
      refine lv_aload_n hx hb dX2_squareWordAddTo_42 rfl (lv_at hl 5 rfl) ?_
      refine lv_iload_n hx hb dX2_squareWordAddTo_43 rfl (lv_at hl 4 rfl) ?_
      refine lv_iload hx hb dX2_squareWordAddTo_44 (lv_at hl 1 rfl) ?_
      refine lv_iadd hx hb dX2_squareWordAddTo_46 ?_
      refine wr_topi (nI (o + i)) (nI_add _ _) ?_
      refine lv_lload_n hx hb dX2_squareWordAddTo_47 rfl (lv_at hl 0 rfl) ?_
      refine lv_l2i (v := (wn_cw (wn_gT (wn_w (y o)) y (fun j => z (o + j)))) i) hx hb dX2_squareWordAddTo_48 (lN_i _) ?_
      refine wr_iast hx hb hK hP hD hS (wr_set_at h3) (by omega) (b3) ((ws.set i3 (wr_i dI a3 n3 (wr_g (wn_cw (wn_gT (wn_w (y o)) y (fun j => z (o + j)))) z o (i + 1))))) (by rw [wr_set_set, wr_gu]) dX2_squareWordAddTo_49 (fun H locs hP hD hS => ?_)
      refine lv_lload_n hx hb dX2_squareWordAddTo_50 rfl (lv_at hl 0 rfl) ?_
      refine lv_bipush (v := 32) hx hb dX2_squareWordAddTo_51 (by decide) ?_
      refine lv_lushr (v := lN (wn_c (wn_gT (wn_w (y o)) y (fun j => z (o + j))) (i + 1))) hx hb dX2_squareWordAddTo_53 (wn_shr32 (by have h8 := wn_c_lt (wn_gT_le hw y (fun j => z (o + j))) i; have h9 := wn_gT_le hw y (fun j => z (o + j)) i; omega)) ?_
      refine lv_lstore_n (lv' := [(3, .long (lN (wn_c (wn_gT (wn_w (y o)) y (fun j => z (o + j))) (i + 1)))), (7, .int (nI i)), (5, .long (lN (wn_w (y o)))), (0, .ref a2), (1, .int (nI o)), (2, .ref a3)]) hx hb dX2_squareWordAddTo_54 rfl hl (by decide) rfl (fun ls hl => ?_)
      refine lv_iinc (v := nI (i + 1)) (lv' := [(7, .int (nI (i + 1))), (3, .long (lN (wn_c (wn_gT (wn_w (y o)) y (fun j => z (o + j))) (i + 1)))), (5, .long (lN (wn_w (y o)))), (0, .ref a2), (1, .int (nI o)), (2, .ref a3)]) hx hb dX2_squareWordAddTo_55 hl (k := 1) rfl (wn_inc i) (by decide) rfl (fun ls hl => ?_)
      refine lv_iload hx hb dX2_squareWordAddTo_58 (lv_at hl 0 rfl) ?_
      refine lv_iload_n hx hb dX2_squareWordAddTo_60 rfl (lv_at hl 4 rfl) ?_
      refine lv_icmp_lt (tgt := 15) hx hb dX2_squareWordAddTo_61 (by decide) (fun _ => ?_) (fun q_ => absurd (nI_lt (show i + 1 < o by omega) hB) q_)
      exact ih (i + 1) H locs ls (by omega) hP hD hS (lv_sub hl [0, 1, 2, 3, 4, 5] rfl)
  have e0 : (ws.set i3 (wr_i dI a3 n3 (wr_g (wn_cw (wn_gT (wn_w (y o)) y (fun j => z (o + j)))) z o 0))) = ws := by rw [wr_g0]; exact wr_set_self h3
  exact loop (o - 1) 0 s.heap [] ls (by omega) (by rw [e0]; exact hP) (by rw [e0]; exact hD) hS (lv_sub hl [0, 2, 1, 3, 4, 5] rfl)

set_option maxHeartbeats 4000000 in
set_option maxRecDepth 100000 in
/-- Nat.shiftUpBit -/
theorem m_shiftUpBit (l : Launch) (D : va_G) (dI dF : ClassId) (ws : va_W) (sz : Nat) (n i3 a3 n3 : Nat) (c0 : Int32) (z : Nat → Int32) (h3 : ws[i3]? = some (wr_i dI a3 n3 z)) (l3 : n ≤ n3) (b3 : n3 < 2 ^ 31) : Met l yX2_shiftUpBit (ws_ yX2_shiftUpBit cX2_shiftUpBit 5 (some .int)) wr_r0 (wr_Pc D dI dF [.int (nI n), .ref a3, .int c0] ws sz) (va_Qi (fun (r : Int32) (_ : Unit) => r = wn_ur (wn_pv c0 z n) 31) (fun _ t => wr_B D (va_A ws sz) (ws.set i3 (wr_i dI a3 n3 (wr_f (wn_1w c0 z) z n))) t) (va_A ws sz)) 0 0 (va_A ws sz) := by
  refine Met.ofW (cc := cX2_shiftUpBit) (maxL := 5) (ret := (some .int)) (by decide) rfl ?_
  intro p e s m args below meth c s₁ B hml hv
  obtain ⟨rfl, hsz, hP, hK, hD0⟩ := hv
  have hx := B.exec
  have hb := B.bytes
  have hr := B.returns
  have hts := atoms_spec (ws := ws_ yX2_shiftUpBit cX2_shiftUpBit 5 (some .int)) B.pre
  have hts : ∀ w ∈ lw_all, w.before _ s = true := fun w h => hts w (List.mem_cons_of_mem _ h)
  have hown : s.vm.findClass RX2 = some m.cls := findClass_of_methodNamed B.named
  have hlocks := B.notSynchronized
  subst hsz
  have hD := hD0.self (sz := s.heap.size)
  generalize hAe : va_A ws s.heap.size = A at hD ⊢
  have hA : ∀ q : Nat, s.heap.size ≤ q → A q := fun q h => by rw [← hAe]; exact Or.inr h
  have hS : va_S A s.heap s.heap [] := va_S.rf
  have hl := lv_entry ([.int (nI n), .ref a3, .int c0]) (n := 5) (Nat.le_of_ble_eq_true rfl)
  rw [lg_entry_eq]
  generalize (lg_sl ([.int (nI n), .ref a3, .int c0]) ++ List.replicate (5 - (lg_sl ([.int (nI n), .ref a3, .int c0])).length) Slot.unset).toArray = ls at hl ⊢
  have hl : lv_has ls 5 [(0, .int (nI n)), (1, .ref a3), (2, .int c0)] := hl
  refine lv_iconst (v := nI 0) hx hb dX2_shiftUpBit_0 (by decide) ?_
  refine lv_istore_n (lv' := [(3, .int (nI 0)), (0, .int (nI n)), (1, .ref a3), (2, .int c0)]) hx hb dX2_shiftUpBit_1 rfl hl (by decide) rfl (fun ls hl => ?_)
  have hB : n < 2 ^ 31 := by omega
  have loop : ∀ (k i : Nat) (H : Heap) (locs : List Loc) (ls : Array Slot), i + k = n → va_P D vwCl (ws.set i3 (wr_i dI a3 n3 (wr_f (wn_1w c0 z) z i))) H → va_D A (ws.set i3 (wr_i dI a3 n3 (wr_f (wn_1w c0 z) z i))) → va_S A s.heap H locs → lv_has ls 5 [(3, .int (nI i)), (2, .int (wn_pv c0 z i)), (0, .int (nI n)), (1, .ref a3)] → W p l e (headSpec (ws_ yX2_shiftUpBit cX2_shiftUpBit 5 (some .int)) wr_r0).room s m (([.int (nI n), .ref a3, .int c0] : List Value).toArray) below meth c H locs 0 0 (MQ below (va_Qi (fun (r : Int32) (_ : Unit) => r = wn_ur (wn_pv c0 z n) 31) (fun _ t => wr_B D A (ws.set i3 (wr_i dI a3 n3 (wr_f (wn_1w c0 z) z n))) t) A) (([.int (nI n), .ref a3, .int c0] : List Value).toArray) s 0 0 A) (F0 m 2 ls []) := by
    intro k
    induction k with
    | zero =>
      intro i H locs ls hik hP hD hS hl
      have hin : i = n := by omega
      rw [hin] at hP hD hl
      refine lv_iload_n hx hb dX2_shiftUpBit_2 rfl (lv_at hl 0 rfl) ?_
      refine lv_iload_n hx hb dX2_shiftUpBit_3 rfl (lv_at hl 2 rfl) ?_
      refine lv_icmp_ge (tgt := 33) hx hb dX2_shiftUpBit_4 (by decide) (fun _ => ?_) (fun q_ => absurd (nI_le (Nat.le_refl n) hB) q_)
      refine lv_iload_n hx hb dX2_shiftUpBit_33 rfl (lv_at hl 1 rfl) ?_
      refine lv_bipush (v := 31) hx hb dX2_shiftUpBit_34 (by decide) ?_
      refine lv_iushr (v := wn_ur (wn_pv c0 z n) 31) hx hb dX2_shiftUpBit_36 (rfl) ?_
      exact wr_iret () hx hb hr hlocks hP hD hS (rfl) (Nat.zero_le _) (Nat.zero_le _) dX2_shiftUpBit_37
    | succ k ih =>
      intro i H locs ls hik hP hD hS hl
      have hi : i < n := by omega
      have v3 : wr_f (wn_1w c0 z) z i i = z i := wr_fi _ _ (Nat.le_refl i)
      refine lv_iload_n hx hb dX2_shiftUpBit_2 rfl (lv_at hl 0 rfl) ?_
      refine lv_iload_n hx hb dX2_shiftUpBit_3 rfl (lv_at hl 2 rfl) ?_
      refine lv_icmp_ge (tgt := 33) hx hb dX2_shiftUpBit_4 (by decide) (fun q_ => absurd q_ (nI_ge hi hB)) (fun _ => ?_)
      refine lv_aload_n hx hb dX2_shiftUpBit_7 rfl (lv_at hl 3 rfl) ?_
      refine lv_iload_n hx hb dX2_shiftUpBit_8 rfl (lv_at hl 0 rfl) ?_
      refine wr_iald hx hb hK hP (wr_set_at h3) (by omega) (b3) dX2_shiftUpBit_9 ?_
      refine wr_topi (z i) (v3) ?_
      refine lv_istore (lv' := [(4, .int (z i)), (3, .int (nI i)), (2, .int (wn_pv c0 z i)), (0, .int (nI n)), (1, .ref a3)]) hx hb dX2_shiftUpBit_10 hl (by decide) rfl (fun ls hl => ?_)
      refine lv_aload_n hx hb dX2_shiftUpBit_12 rfl (lv_at hl 4 rfl) ?_
      refine lv_iload_n hx hb dX2_shiftUpBit_13 rfl (lv_at hl 1 rfl) ?_
      refine lv_iload hx hb dX2_shiftUpBit_14 (lv_at hl 0 rfl) ?_
      refine lv_iconst (v := 1) hx hb dX2_shiftUpBit_16 (by decide) ?_
      refine lv_ishl hx hb dX2_shiftUpBit_17 ?_
      refine lv_iload_n hx hb dX2_shiftUpBit_18 rfl (lv_at hl 2 rfl) ?_
      refine lv_bipush (v := 31) hx hb dX2_shiftUpBit_19 (by decide) ?_
      refine lv_iushr (v := wn_ur (wn_pv c0 z i) 31) hx hb dX2_shiftUpBit_21 (rfl) ?_
      refine lv_ior hx hb dX2_shiftUpBit_22 ?_
      refine wr_topi ((wn_1w c0 z) i) (rfl) ?_
      refine wr_iast hx hb hK hP hD hS (wr_set_at h3) (by omega) (b3) ((ws.set i3 (wr_i dI a3 n3 (wr_f (wn_1w c0 z) z (i + 1))))) (by rw [wr_set_set, wr_fu]) dX2_shiftUpBit_23 (fun H locs hP hD hS => ?_)
      refine lv_iload hx hb dX2_shiftUpBit_24 (lv_at hl 0 rfl) ?_
      refine lv_istore_n (lv' := [(2, .int (z i)), (4, .int (z i)), (3, .int (nI i)), (0, .int (nI n)), (1, .ref a3)]) hx hb dX2_shiftUpBit_26 rfl hl (by decide) rfl (fun ls hl => ?_)
      refine lv_iinc (v := nI (i + 1)) (lv' := [(3, .int (nI (i + 1))), (2, .int (z i)), (4, .int (z i)), (0, .int (nI n)), (1, .ref a3)]) hx hb dX2_shiftUpBit_27 hl (k := 2) rfl (wn_inc i) (by decide) rfl (fun ls hl => ?_)
      refine lv_goto (tgt := 2) hx hb dX2_shiftUpBit_30 (by decide) ?_
      exact ih (i + 1) H locs ls (by omega) hP hD hS (lv_sub hl [0, 1, 3, 4] rfl)
  have e0 : (ws.set i3 (wr_i dI a3 n3 (wr_f (wn_1w c0 z) z 0))) = ws := by rw [wr_f0]; exact wr_set_self h3
  exact loop n 0 s.heap [] ls (by omega) (by rw [e0]; exact hP) (by rw [e0]; exact hD) hS (lv_sub hl [0, 3, 1, 2] rfl)

set_option maxHeartbeats 4000000 in
set_option maxRecDepth 100000 in
/-- Nat.shiftUpBits -/
theorem m_shiftUpBits (l : Launch) (D : va_G) (dI dF : ClassId) (ws : va_W) (sz : Nat) (n i3 a3 n3 : Nat) (bk c0 : Int32) (z : Nat → Int32) (h3 : ws[i3]? = some (wr_i dI a3 n3 z)) (l3 : n ≤ n3) (b3 : n3 < 2 ^ 31) : Met l yX2_shiftUpBits (ws_ yX2_shiftUpBits cX2_shiftUpBits 6 (some .int)) wr_r0 (wr_Pc D dI dF [.int (nI n), .ref a3, .int bk, .int c0] ws sz) (va_Qi (fun (r : Int32) (_ : Unit) => r = wn_ur (wn_pv c0 z n) (-bk)) (fun _ t => wr_B D (va_A ws sz) (ws.set i3 (wr_i dI a3 n3 (wr_f (wn_uw bk c0 z) z n))) t) (va_A ws sz)) 0 0 (va_A ws sz) := by
  refine Met.ofW (cc := cX2_shiftUpBits) (maxL := 6) (ret := (some .int)) (by decide) rfl ?_
  intro p e s m args below meth c s₁ B hml hv
  obtain ⟨rfl, hsz, hP, hK, hD0⟩ := hv
  have hx := B.exec
  have hb := B.bytes
  have hr := B.returns
  have hts := atoms_spec (ws := ws_ yX2_shiftUpBits cX2_shiftUpBits 6 (some .int)) B.pre
  have hts : ∀ w ∈ lw_all, w.before _ s = true := fun w h => hts w (List.mem_cons_of_mem _ h)
  have hown : s.vm.findClass RX2 = some m.cls := findClass_of_methodNamed B.named
  have hlocks := B.notSynchronized
  subst hsz
  have hD := hD0.self (sz := s.heap.size)
  generalize hAe : va_A ws s.heap.size = A at hD ⊢
  have hA : ∀ q : Nat, s.heap.size ≤ q → A q := fun q h => by rw [← hAe]; exact Or.inr h
  have hS : va_S A s.heap s.heap [] := va_S.rf
  have hl := lv_entry ([.int (nI n), .ref a3, .int bk, .int c0]) (n := 6) (Nat.le_of_ble_eq_true rfl)
  rw [lg_entry_eq]
  generalize (lg_sl ([.int (nI n), .ref a3, .int bk, .int c0]) ++ List.replicate (6 - (lg_sl ([.int (nI n), .ref a3, .int bk, .int c0])).length) Slot.unset).toArray = ls at hl ⊢
  have hl : lv_has ls 6 [(0, .int (nI n)), (1, .ref a3), (2, .int bk), (3, .int c0)] := hl
  refine lv_iconst (v := nI 0) hx hb dX2_shiftUpBits_0 (by decide) ?_
  refine lv_istore (lv' := [(4, .int (nI 0)), (0, .int (nI n)), (1, .ref a3), (2, .int bk), (3, .int c0)]) hx hb dX2_shiftUpBits_1 hl (by decide) rfl (fun ls hl => ?_)
  have hB : n < 2 ^ 31 := by omega
  have loop : ∀ (k i : Nat) (H : Heap) (locs : List Loc) (ls : Array Slot), i + k = n → va_P D vwCl (ws.set i3 (wr_i dI a3 n3 (wr_f (wn_uw bk c0 z) z i))) H → va_D A (ws.set i3 (wr_i dI a3 n3 (wr_f (wn_uw bk c0 z) z i))) → va_S A s.heap H locs → lv_has ls 6 [(4, .int (nI i)), (3, .int (wn_pv c0 z i)), (0, .int (nI n)), (1, .ref a3), (2, .int bk)] → W p l e (headSpec (ws_ yX2_shiftUpBits cX2_shiftUpBits 6 (some .int)) wr_r0).room s m (([.int (nI n), .ref a3, .int bk, .int c0] : List Value).toArray) below meth c H locs 0 0 (MQ below (va_Qi (fun (r : Int32) (_ : Unit) => r = wn_ur (wn_pv c0 z n) (-bk)) (fun _ t => wr_B D A (ws.set i3 (wr_i dI a3 n3 (wr_f (wn_uw bk c0 z) z n))) t) A) (([.int (nI n), .ref a3, .int bk, .int c0] : List Value).toArray) s 0 0 A) (F0 m 3 ls []) := by
    intro k
    induction k with
    | zero =>
      intro i H locs ls hik hP hD hS hl
      have hin : i = n := by omega
      rw [hin] at hP hD hl
      refine lv_iload hx hb dX2_shiftUpBits_3 (lv_at hl 0 rfl) ?_
      refine lv_iload_n hx hb dX2_shiftUpBits_5 rfl (lv_at hl 2 rfl) ?_
      refine lv_icmp_ge (tgt := 37) hx hb dX2_shiftUpBits_6 (by decide) (fun _ => ?_) (fun q_ => absurd (nI_le (Nat.le_refl n) hB) q_)
      refine lv_iload_n hx hb dX2_shiftUpBits_37 rfl (lv_at hl 1 rfl) ?_
      refine lv_iload_n hx hb dX2_shiftUpBits_38 rfl (lv_at hl 4 rfl) ?_
      refine lv_ineg hx hb dX2_shiftUpBits_39 ?_
      refine lv_iushr (v := wn_ur (wn_pv c0 z n) (-bk)) hx hb dX2_shiftUpBits_40 (rfl) ?_
      exact wr_iret () hx hb hr hlocks hP hD hS (rfl) (Nat.zero_le _) (Nat.zero_le _) dX2_shiftUpBits_41
    | succ k ih =>
      intro i H locs ls hik hP hD hS hl
      have hi : i < n := by omega
      have v3 : wr_f (wn_uw bk c0 z) z i i = z i := wr_fi _ _ (Nat.le_refl i)
      refine lv_iload hx hb dX2_shiftUpBits_3 (lv_at hl 0 rfl) ?_
      refine lv_iload_n hx hb dX2_shiftUpBits_5 rfl (lv_at hl 2 rfl) ?_
      refine lv_icmp_ge (tgt := 37) hx hb dX2_shiftUpBits_6 (by decide) (fun q_ => absurd q_ (nI_ge hi hB)) (fun _ => ?_)
      refine lv_aload_n hx hb dX2_shiftUpBits_9 rfl (lv_at hl 3 rfl) ?_
      refine lv_iload hx hb dX2_shiftUpBits_10 (lv_at hl 0 rfl) ?_
      refine wr_iald hx hb hK hP (wr_set_at h3) (by omega) (b3) dX2_shiftUpBits_12 ?_
      refine wr_topi (z i) (v3) ?_
      refine lv_istore (lv' := [(5, .int (z i)), (4, .int (nI i)), (3, .int (wn_pv c0 z i)), (0, .int (nI n)), (1, .ref a3), (2, .int bk)]) hx hb dX2_shiftUpBits_13 hl (by decide) rfl (fun ls hl => ?_)
      refine lv_aload_n hx hb dX2_shiftUpBits_15 rfl (lv_at hl 4 rfl) ?_
      refine lv_iload hx hb dX2_shiftUpBits_16 (lv_at hl 1 rfl) ?_
      refine lv_iload hx hb dX2_shiftUpBits_18 (lv_at hl 0 rfl) ?_
      refine lv_iload_n hx hb dX2_shiftUpBits_20 rfl (lv_at hl 5 rfl) ?_
      refine lv_ishl hx hb dX2_shiftUpBits_21 ?_
      refine lv_iload_n hx hb dX2_shiftUpBits_22 rfl (lv_at hl 2 rfl) ?_
      refine lv_iload_n hx hb dX2_shiftUpBits_23 rfl (lv_at hl 5 rfl) ?_
      refine lv_ineg hx hb dX2_shiftUpBits_24 ?_
      refine lv_iushr (v := wn_ur (wn_pv c0 z i) (-bk)) hx hb dX2_shiftUpBits_25 (rfl) ?_
      refine lv_ior hx hb dX2_shiftUpBits_26 ?_
      refine wr_topi ((wn_uw bk c0 z) i) (rfl) ?_
      refine wr_iast hx hb hK hP hD hS (wr_set_at h3) (by omega) (b3) ((ws.set i3 (wr_i dI a3 n3 (wr_f (wn_uw bk c0 z) z (i + 1))))) (by rw [wr_set_set, wr_fu]) dX2_shiftUpBits_27 (fun H locs hP hD hS => ?_)
      refine lv_iload hx hb dX2_shiftUpBits_28 (lv_at hl 0 rfl) ?_
      refine lv_istore_n (lv' := [(3, .int (z i)), (5, .int (z i)), (4, .int (nI i)), (0, .int (nI n)), (1, .ref a3), (2, .int bk)]) hx hb dX2_shiftUpBits_30 rfl hl (by decide) rfl (fun ls hl => ?_)
      refine lv_iinc (v := nI (i + 1)) (lv' := [(4, .int (nI (i + 1))), (3, .int (z i)), (5, .int (z i)), (0, .int (nI n)), (1, .ref a3), (2, .int bk)]) hx hb dX2_shiftUpBits_31 hl (k := 2) rfl (wn_inc i) (by decide) rfl (fun ls hl => ?_)
      refine lv_goto (tgt := 3) hx hb dX2_shiftUpBits_34 (by decide) ?_
      exact ih (i + 1) H locs ls (by omega) hP hD hS (lv_sub hl [0, 1, 3, 4, 5] rfl)
  have e0 : (ws.set i3 (wr_i dI a3 n3 (wr_f (wn_uw bk c0 z) z 0))) = ws := by rw [wr_f0]; exact wr_set_self h3
  exact loop n 0 s.heap [] ls (by omega) (by rw [e0]; exact hP) (by rw [e0]; exact hD) hS (lv_sub hl [0, 4, 1, 2, 3] rfl)

set_option maxHeartbeats 4000000 in
set_option maxRecDepth 100000 in
/-- Nat.shiftDownBits -/
theorem m_shiftDownBits (l : Launch) (D : va_G) (dI dF : ClassId) (ws : va_W) (sz : Nat) (n i3 a3 n3 : Nat) (bk c0 : Int32) (z : Nat → Int32) (h3 : ws[i3]? = some (wr_i dI a3 n3 z)) (l3 : n ≤ n3) (b3 : n3 < 2 ^ 31) : Met l yX2_shiftDownBits (ws_ yX2_shiftDownBits cX2_shiftDownBits 6 (some .int)) wr_r0 (wr_Pc D dI dF [.int (nI n), .ref a3, .int bk, .int c0] ws sz) (va_Qi (fun (r : Int32) (_ : Unit) => r = wn_su (wn_nx n c0 z 0) (-bk)) (fun _ t => wr_B D (va_A ws sz) (ws.set i3 (wr_i dI a3 n3 (wr_f (wn_ow bk c0 z n) z n))) t) (va_A ws sz)) 0 0 (va_A ws sz) := by
  refine Met.ofW (cc := cX2_shiftDownBits) (maxL := 6) (ret := (some .int)) (by decide) rfl ?_
  intro p e s m args below meth c s₁ B hml hv
  obtain ⟨rfl, hsz, hP, hK, hD0⟩ := hv
  have hx := B.exec
  have hb := B.bytes
  have hr := B.returns
  have hts := atoms_spec (ws := ws_ yX2_shiftDownBits cX2_shiftDownBits 6 (some .int)) B.pre
  have hts : ∀ w ∈ lw_all, w.before _ s = true := fun w h => hts w (List.mem_cons_of_mem _ h)
  have hown : s.vm.findClass RX2 = some m.cls := findClass_of_methodNamed B.named
  have hlocks := B.notSynchronized
  subst hsz
  have hD := hD0.self (sz := s.heap.size)
  generalize hAe : va_A ws s.heap.size = A at hD ⊢
  have hA : ∀ q : Nat, s.heap.size ≤ q → A q := fun q h => by rw [← hAe]; exact Or.inr h
  have hS : va_S A s.heap s.heap [] := va_S.rf
  have hl := lv_entry ([.int (nI n), .ref a3, .int bk, .int c0]) (n := 6) (Nat.le_of_ble_eq_true rfl)
  rw [lg_entry_eq]
  generalize (lg_sl ([.int (nI n), .ref a3, .int bk, .int c0]) ++ List.replicate (6 - (lg_sl ([.int (nI n), .ref a3, .int bk, .int c0])).length) Slot.unset).toArray = ls at hl ⊢
  have hl : lv_has ls 6 [(0, .int (nI n)), (1, .ref a3), (2, .int bk), (3, .int c0)] := hl
  refine lv_iload_n hx hb dX2_shiftDownBits_0 rfl (lv_at hl 0 rfl) ?_
  refine lv_istore (lv' := [(4, .int (nI n)), (0, .int (nI n)), (1, .ref a3), (2, .int bk), (3, .int c0)]) hx hb dX2_shiftDownBits_1 hl (by decide) rfl (fun ls hl => ?_)
  have hB : n < 2 ^ 31 := by omega
  have loop : ∀ (i : Nat) (H : Heap) (locs : List Loc) (ls : Array Slot), i ≤ n → va_P D vwCl (ws.set i3 (wr_i dI a3 n3 (wr_h (wn_ow bk c0 z n) z n i))) H → va_D A (ws.set i3 (wr_i dI a3 n3 (wr_h (wn_ow bk c0 z n) z n i))) → va_S A s.heap H locs → lv_has ls 6 [(4, .int (nI i)), (3, .int (wn_nx n c0 z i)), (0, .int (nI n)), (1, .ref a3), (2, .int bk)] → W p l e (headSpec (ws_ yX2_shiftDownBits cX2_shiftDownBits 6 (some .int)) wr_r0).room s m (([.int (nI n), .ref a3, .int bk, .int c0] : List Value).toArray) below meth c H locs 0 0 (MQ below (va_Qi (fun (r : Int32) (_ : Unit) => r = wn_su (wn_nx n c0 z 0) (-bk)) (fun _ t => wr_B D A (ws.set i3 (wr_i dI a3 n3 (wr_f (wn_ow bk c0 z n) z n))) t) A) (([.int (nI n), .ref a3, .int bk, .int c0] : List Value).toArray) s 0 0 A) (F0 m 3 ls []) := by
    intro i
    induction i with
    | zero =>
      intro H locs ls hik hP hD hS hl
      refine lv_iinc (v := (-1)) (lv' := [(4, .int ((-1))), (3, .int (wn_nx n c0 z 0)), (0, .int (nI n)), (1, .ref a3), (2, .int bk)]) hx hb dX2_shiftDownBits_3 hl (k := 0) rfl (by decide) (by decide) rfl (fun ls hl => ?_)
      refine lv_iload hx hb dX2_shiftDownBits_6 (lv_at hl 0 rfl) ?_
      refine lv_if_lt (tgt := 36) hx hb dX2_shiftDownBits_8 (by decide) (fun _ => ?_) (fun q_ => absurd (by decide) q_)
      refine lv_iload_n hx hb dX2_shiftDownBits_36 rfl (lv_at hl 1 rfl) ?_
      refine lv_iload_n hx hb dX2_shiftDownBits_37 rfl (lv_at hl 4 rfl) ?_
      refine lv_ineg hx hb dX2_shiftDownBits_38 ?_
      refine lv_ishl hx hb dX2_shiftDownBits_39 ?_
      refine wr_topi (wn_su (wn_nx n c0 z 0) (-bk)) (rfl) ?_
      rw [wr_hz] at hP hD
      exact wr_iret () hx hb hr hlocks hP hD hS (rfl) (Nat.zero_le _) (Nat.zero_le _) dX2_shiftDownBits_40
    | succ i ih =>
      intro H locs ls hik hP hD hS hl
      have hi : i < n := by omega
      have v3 : wr_h (wn_ow bk c0 z n) z n (i + 1) i = z i := wr_hi _ _ (Nat.lt_succ_self i)
      have v4 : wn_nx n c0 z i = z i := if_pos hi
      refine lv_iinc (v := nI i) (lv' := [(4, .int (nI i)), (3, .int (wn_nx n c0 z (i + 1))), (0, .int (nI n)), (1, .ref a3), (2, .int bk)]) hx hb dX2_shiftDownBits_3 hl (k := 0) rfl (wn_dec i) (by decide) rfl (fun ls hl => ?_)
      refine lv_iload hx hb dX2_shiftDownBits_6 (lv_at hl 0 rfl) ?_
      refine lv_if_lt (tgt := 36) hx hb dX2_shiftDownBits_8 (by decide) (fun q_ => absurd q_ (nI_pos (by omega))) (fun _ => ?_)
      refine lv_aload_n hx hb dX2_shiftDownBits_11 rfl (lv_at hl 3 rfl) ?_
      refine lv_iload hx hb dX2_shiftDownBits_12 (lv_at hl 0 rfl) ?_
      refine wr_iald hx hb hK hP (wr_set_at h3) (by omega) (b3) dX2_shiftDownBits_14 ?_
      refine wr_topi (z i) (v3) ?_
      refine lv_istore (lv' := [(5, .int (z i)), (4, .int (nI i)), (3, .int (wn_nx n c0 z (i + 1))), (0, .int (nI n)), (1, .ref a3), (2, .int bk)]) hx hb dX2_shiftDownBits_15 hl (by decide) rfl (fun ls hl => ?_)
      refine lv_aload_n hx hb dX2_shiftDownBits_17 rfl (lv_at hl 4 rfl) ?_
      refine lv_iload hx hb dX2_shiftDownBits_18 (lv_at hl 1 rfl) ?_
      refine lv_iload hx hb dX2_shiftDownBits_20 (lv_at hl 0 rfl) ?_
      refine lv_iload_n hx hb dX2_shiftDownBits_22 rfl (lv_at hl 5 rfl) ?_
      refine lv_iushr (v := wn_ur (z i) bk) hx hb dX2_shiftDownBits_23 (rfl) ?_
      refine lv_iload_n hx hb dX2_shiftDownBits_24 rfl (lv_at hl 2 rfl) ?_
      refine lv_iload_n hx hb dX2_shiftDownBits_25 rfl (lv_at hl 5 rfl) ?_
      refine lv_ineg hx hb dX2_shiftDownBits_26 ?_
      refine lv_ishl hx hb dX2_shiftDownBits_27 ?_
      refine lv_ior hx hb dX2_shiftDownBits_28 ?_
      refine wr_topi ((wn_ow bk c0 z n) i) (rfl) ?_
      refine wr_iast hx hb hK hP hD hS (wr_set_at h3) (by omega) (b3) ((ws.set i3 (wr_i dI a3 n3 (wr_h (wn_ow bk c0 z n) z n i)))) (by rw [wr_set_set, wr_hu _ _ hi]) dX2_shiftDownBits_29 (fun H locs hP hD hS => ?_)
      refine lv_iload hx hb dX2_shiftDownBits_30 (lv_at hl 0 rfl) ?_
      refine lv_istore_n (lv' := [(3, .int (z i)), (5, .int (z i)), (4, .int (nI i)), (0, .int (nI n)), (1, .ref a3), (2, .int bk)]) hx hb dX2_shiftDownBits_32 rfl hl (by decide) rfl (fun ls hl => ?_)
      refine lv_goto (tgt := 3) hx hb dX2_shiftDownBits_33 (by decide) ?_
      have hl := (lv_sub hl [2, 0, 3, 4, 5] rfl)
      exact ih H locs ls (by omega) hP hD hS (by rw [v4]; exact hl)
  have e0 : (ws.set i3 (wr_i dI a3 n3 (wr_h (wn_ow bk c0 z n) z n n))) = ws := by rw [wr_h0]; exact wr_set_self h3
  have c1 : wn_nx n c0 z n = c0 := if_neg (Nat.lt_irrefl n)
  have hl := (lv_sub hl [0, 4, 1, 2, 3] rfl)
  exact loop n s.heap [] ls (Nat.le_refl n) (by rw [e0]; exact hP) (by rw [e0]; exact hD) hS (by rw [c1]; exact hl)

set_option maxHeartbeats 4000000 in
set_option maxRecDepth 100000 in
/-- Nat.inc -/
theorem m_inc (l : Launch) (D : va_G) (dI dF : ClassId) (ws : va_W) (sz : Nat) (n i3 a3 n3 : Nat) (z : Nat → Int32) (h3 : ws[i3]? = some (wr_i dI a3 n3 z)) (l3 : n ≤ n3) (b3 : n3 < 2 ^ 31) : Met l yX2_inc (ws_ yX2_inc cX2_inc 3 (some .int)) wr_r0 (wr_Pc D dI dF [.int (nI n), .ref a3] ws sz) (va_Qi (fun (r : Int32) (_ : Unit) => r = wn_ig z n) (fun _ t => wr_B D (va_A ws sz) (ws.set i3 (wr_i dI a3 n3 (wr_f (wn_iw z) z n))) t) (va_A ws sz)) 0 0 (va_A ws sz) := by
  refine Met.ofW (cc := cX2_inc) (maxL := 3) (ret := (some .int)) (by decide) rfl ?_
  intro p e s m args below meth c s₁ B hml hv
  obtain ⟨rfl, hsz, hP, hK, hD0⟩ := hv
  have hx := B.exec
  have hb := B.bytes
  have hr := B.returns
  have hts := atoms_spec (ws := ws_ yX2_inc cX2_inc 3 (some .int)) B.pre
  have hts : ∀ w ∈ lw_all, w.before _ s = true := fun w h => hts w (List.mem_cons_of_mem _ h)
  have hown : s.vm.findClass RX2 = some m.cls := findClass_of_methodNamed B.named
  have hlocks := B.notSynchronized
  subst hsz
  have hD := hD0.self (sz := s.heap.size)
  generalize hAe : va_A ws s.heap.size = A at hD ⊢
  have hA : ∀ q : Nat, s.heap.size ≤ q → A q := fun q h => by rw [← hAe]; exact Or.inr h
  have hS : va_S A s.heap s.heap [] := va_S.rf
  have hl := lv_entry ([.int (nI n), .ref a3]) (n := 3) (Nat.le_of_ble_eq_true rfl)
  rw [lg_entry_eq]
  generalize (lg_sl ([.int (nI n), .ref a3]) ++ List.replicate (3 - (lg_sl ([.int (nI n), .ref a3])).length) Slot.unset).toArray = ls at hl ⊢
  have hl : lv_has ls 3 [(0, .int (nI n)), (1, .ref a3)] := hl
  refine lv_iconst (v := nI 0) hx hb dX2_inc_0 (by decide) ?_
  refine lv_istore_n (lv' := [(2, .int (nI 0)), (0, .int (nI n)), (1, .ref a3)]) hx hb dX2_inc_1 rfl hl (by decide) rfl (fun ls hl => ?_)
  have hB : n < 2 ^ 31 := by omega
  have loop : ∀ (k i : Nat) (H : Heap) (locs : List Loc) (ls : Array Slot), i + k = n → wn_ig z i = 1 → va_P D vwCl (ws.set i3 (wr_i dI a3 n3 (wr_f (wn_iw z) z i))) H → va_D A (ws.set i3 (wr_i dI a3 n3 (wr_f (wn_iw z) z i))) → va_S A s.heap H locs → lv_has ls 3 [(2, .int (nI i)), (0, .int (nI n)), (1, .ref a3)] → W p l e (headSpec (ws_ yX2_inc cX2_inc 3 (some .int)) wr_r0).room s m (([.int (nI n), .ref a3] : List Value).toArray) below meth c H locs 0 0 (MQ below (va_Qi (fun (r : Int32) (_ : Unit) => r = wn_ig z n) (fun _ t => wr_B D A (ws.set i3 (wr_i dI a3 n3 (wr_f (wn_iw z) z n))) t) A) (([.int (nI n), .ref a3] : List Value).toArray) s 0 0 A) (F0 m 2 ls []) := by
    intro k
    induction k with
    | zero =>
      intro i H locs ls hik hg hP hD hS hl
      have hin : i = n := by omega
      rw [hin] at hP hD hl hg
      refine lv_iload_n hx hb dX2_inc_2 rfl (lv_at hl 0 rfl) ?_
      refine lv_iload_n hx hb dX2_inc_3 rfl (lv_at hl 1 rfl) ?_
      refine lv_icmp_ge (tgt := 26) hx hb dX2_inc_4 (by decide) (fun _ => ?_) (fun q_ => absurd (nI_le (Nat.le_refl n) hB) q_)
      refine lv_iconst (v := 1) hx hb dX2_inc_26 (by decide) ?_
      exact wr_iret () hx hb hr hlocks hP hD hS (hg.symm) (Nat.zero_le _) (Nat.zero_le _) dX2_inc_27
    | succ k ih =>
      intro i H locs ls hik hg hP hD hS hl
      have hi : i < n := by omega
      have v3 : wr_f (wn_iw z) z i i = z i := wr_fi _ _ (Nat.le_refl i)
      refine lv_iload_n hx hb dX2_inc_2 rfl (lv_at hl 0 rfl) ?_
      refine lv_iload_n hx hb dX2_inc_3 rfl (lv_at hl 1 rfl) ?_
      refine lv_icmp_ge (tgt := 26) hx hb dX2_inc_4 (by decide) (fun q_ => absurd q_ (nI_ge hi hB)) (fun _ => ?_)
      refine lv_aload_n hx hb dX2_inc_7 rfl (lv_at hl 2 rfl) ?_
      refine lv_iload_n hx hb dX2_inc_8 rfl (lv_at hl 0 rfl) ?_
      refine lv_dup2_11 hx hb dX2_inc_9 rfl rfl ?_
      refine wr_iald hx hb hK hP (wr_set_at h3) (by omega) (b3) dX2_inc_10 ?_
      refine wr_topi (z i) (v3) ?_
      refine lv_iconst (v := 1) hx hb dX2_inc_11 (by decide) ?_
      refine lv_iadd hx hb dX2_inc_12 ?_
      refine wr_topi ((wn_iw z) i) (by show z i + 1 = z i + wn_ig z i; rw [hg]) ?_
      refine lv_dup_x2 hx hb dX2_inc_13 rfl rfl rfl ?_
      refine wr_iast hx hb hK hP hD hS (wr_set_at h3) (by omega) (b3) ((ws.set i3 (wr_i dI a3 n3 (wr_f (wn_iw z) z (i + 1))))) (by rw [wr_set_set, wr_fu]) dX2_inc_14 (fun H locs hP hD hS => ?_)
      refine lv_if_eq (tgt := 20) hx hb dX2_inc_15 (by decide) (fun q_ => ?_) (fun q_ => ?_)
      · skip
        have hg1 : wn_ig z (i + 1) = 1 := (if_pos (q_ : z i + wn_ig z i = 0)).trans hg
        refine lv_iinc (v := nI (i + 1)) (lv' := [(2, .int (nI (i + 1))), (0, .int (nI n)), (1, .ref a3)]) hx hb dX2_inc_20 hl (k := 0) rfl (wn_inc i) (by decide) rfl (fun ls hl => ?_)
        refine lv_goto (tgt := 2) hx hb dX2_inc_23 (by decide) ?_
        exact ih (i + 1) H locs ls (by omega) hg1 hP hD hS (lv_sub hl [0, 1, 2] rfl)
      · skip
        have hg1 : wn_ig z (i + 1) = 0 := if_neg (q_ : ¬ z i + wn_ig z i = 0)
        rw [wn_i_stop z (show i + 1 ≤ n by omega) hg1] at hP hD
        have hgn : wn_ig z n = 0 := by have h8 := wn_ig_0 z hg1 (n - (i + 1)); rwa [show i + 1 + (n - (i + 1)) = n by omega] at h8
        refine lv_iconst (v := 0) hx hb dX2_inc_18 (by decide) ?_
        exact wr_iret () hx hb hr hlocks hP hD hS (by first | (rw [hgn]; done) | (rw [hgn]; rfl)) (Nat.zero_le _) (Nat.zero_le _) dX2_inc_19
  have e0 : (ws.set i3 (wr_i dI a3 n3 (wr_f (wn_iw z) z 0))) = ws := by rw [wr_f0]; exact wr_set_self h3
  exact loop n 0 s.heap [] ls (by omega) rfl (by rw [e0]; exact hP) (by rw [e0]; exact hD) hS (lv_sub hl [0, 1, 2] rfl)

set_option maxHeartbeats 4000000 in
set_option maxRecDepth 100000 in
/-- Nat.dec -/
theorem m_dec (l : Launch) (D : va_G) (dI dF : ClassId) (ws : va_W) (sz : Nat) (n i3 a3 n3 : Nat) (z : Nat → Int32) (h3 : ws[i3]? = some (wr_i dI a3 n3 z)) (l3 : n ≤ n3) (b3 : n3 < 2 ^ 31) : Met l yX2_dec (ws_ yX2_dec cX2_dec 3 (some .int)) wr_r0 (wr_Pc D dI dF [.int (nI n), .ref a3] ws sz) (va_Qi (fun (r : Int32) (_ : Unit) => r = -(wn_dg z n)) (fun _ t => wr_B D (va_A ws sz) (ws.set i3 (wr_i dI a3 n3 (wr_f (wn_dw z) z n))) t) (va_A ws sz)) 0 0 (va_A ws sz) := by
  refine Met.ofW (cc := cX2_dec) (maxL := 3) (ret := (some .int)) (by decide) rfl ?_
  intro p e s m args below meth c s₁ B hml hv
  obtain ⟨rfl, hsz, hP, hK, hD0⟩ := hv
  have hx := B.exec
  have hb := B.bytes
  have hr := B.returns
  have hts := atoms_spec (ws := ws_ yX2_dec cX2_dec 3 (some .int)) B.pre
  have hts : ∀ w ∈ lw_all, w.before _ s = true := fun w h => hts w (List.mem_cons_of_mem _ h)
  have hown : s.vm.findClass RX2 = some m.cls := findClass_of_methodNamed B.named
  have hlocks := B.notSynchronized
  subst hsz
  have hD := hD0.self (sz := s.heap.size)
  generalize hAe : va_A ws s.heap.size = A at hD ⊢
  have hA : ∀ q : Nat, s.heap.size ≤ q → A q := fun q h => by rw [← hAe]; exact Or.inr h
  have hS : va_S A s.heap s.heap [] := va_S.rf
  have hl := lv_entry ([.int (nI n), .ref a3]) (n := 3) (Nat.le_of_ble_eq_true rfl)
  rw [lg_entry_eq]
  generalize (lg_sl ([.int (nI n), .ref a3]) ++ List.replicate (3 - (lg_sl ([.int (nI n), .ref a3])).length) Slot.unset).toArray = ls at hl ⊢
  have hl : lv_has ls 3 [(0, .int (nI n)), (1, .ref a3)] := hl
  refine lv_iconst (v := nI 0) hx hb dX2_dec_0 (by decide) ?_
  refine lv_istore_n (lv' := [(2, .int (nI 0)), (0, .int (nI n)), (1, .ref a3)]) hx hb dX2_dec_1 rfl hl (by decide) rfl (fun ls hl => ?_)
  have hB : n < 2 ^ 31 := by omega
  have loop : ∀ (k i : Nat) (H : Heap) (locs : List Loc) (ls : Array Slot), i + k = n → wn_dg z i = 1 → va_P D vwCl (ws.set i3 (wr_i dI a3 n3 (wr_f (wn_dw z) z i))) H → va_D A (ws.set i3 (wr_i dI a3 n3 (wr_f (wn_dw z) z i))) → va_S A s.heap H locs → lv_has ls 3 [(2, .int (nI i)), (0, .int (nI n)), (1, .ref a3)] → W p l e (headSpec (ws_ yX2_dec cX2_dec 3 (some .int)) wr_r0).room s m (([.int (nI n), .ref a3] : List Value).toArray) below meth c H locs 0 0 (MQ below (va_Qi (fun (r : Int32) (_ : Unit) => r = -(wn_dg z n)) (fun _ t => wr_B D A (ws.set i3 (wr_i dI a3 n3 (wr_f (wn_dw z) z n))) t) A) (([.int (nI n), .ref a3] : List Value).toArray) s 0 0 A) (F0 m 2 ls []) := by
    intro k
    induction k with
    | zero =>
      intro i H locs ls hik hg hP hD hS hl
      have hin : i = n := by omega
      rw [hin] at hP hD hl hg
      refine lv_iload_n hx hb dX2_dec_2 rfl (lv_at hl 0 rfl) ?_
      refine lv_iload_n hx hb dX2_dec_3 rfl (lv_at hl 1 rfl) ?_
      refine lv_icmp_ge (tgt := 27) hx hb dX2_dec_4 (by decide) (fun _ => ?_) (fun q_ => absurd (nI_le (Nat.le_refl n) hB) q_)
      refine lv_iconst (v := (-1)) hx hb dX2_dec_27 (by decide) ?_
      exact wr_iret () hx hb hr hlocks hP hD hS (by first | (rw [hg]; done) | (rw [hg]; rfl)) (Nat.zero_le _) (Nat.zero_le _) dX2_dec_28
    | succ k ih =>
      intro i H locs ls hik hg hP hD hS hl
      have hi : i < n := by omega
      have v3 : wr_f (wn_dw z) z i i = z i := wr_fi _ _ (Nat.le_refl i)
      refine lv_iload_n hx hb dX2_dec_2 rfl (lv_at hl 0 rfl) ?_
      refine lv_iload_n hx hb dX2_dec_3 rfl (lv_at hl 1 rfl) ?_
      refine lv_icmp_ge (tgt := 27) hx hb dX2_dec_4 (by decide) (fun q_ => absurd q_ (nI_ge hi hB)) (fun _ => ?_)
      refine lv_aload_n hx hb dX2_dec_7 rfl (lv_at hl 2 rfl) ?_
      refine lv_iload_n hx hb dX2_dec_8 rfl (lv_at hl 0 rfl) ?_
      refine lv_dup2_11 hx hb dX2_dec_9 rfl rfl ?_
      refine wr_iald hx hb hK hP (wr_set_at h3) (by omega) (b3) dX2_dec_10 ?_
      refine wr_topi (z i) (v3) ?_
      refine lv_iconst (v := 1) hx hb dX2_dec_11 (by decide) ?_
      refine lv_isub hx hb dX2_dec_12 ?_
      refine wr_topi ((wn_dw z) i) (by show z i - 1 = z i - wn_dg z i; rw [hg]) ?_
      refine lv_dup_x2 hx hb dX2_dec_13 rfl rfl rfl ?_
      refine wr_iast hx hb hK hP hD hS (wr_set_at h3) (by omega) (b3) ((ws.set i3 (wr_i dI a3 n3 (wr_f (wn_dw z) z (i + 1))))) (by rw [wr_set_set, wr_fu]) dX2_dec_14 (fun H locs hP hD hS => ?_)
      refine lv_iconst (v := (-1)) hx hb dX2_dec_15 (by decide) ?_
      refine lv_icmp_eq (tgt := 21) hx hb dX2_dec_16 (by decide) (fun q_ => ?_) (fun q_ => ?_)
      · skip
        have hg1 : wn_dg z (i + 1) = 1 := (if_pos (q_ : z i - wn_dg z i = (-1))).trans hg
        refine lv_iinc (v := nI (i + 1)) (lv' := [(2, .int (nI (i + 1))), (0, .int (nI n)), (1, .ref a3)]) hx hb dX2_dec_21 hl (k := 0) rfl (wn_inc i) (by decide) rfl (fun ls hl => ?_)
        refine lv_goto (tgt := 2) hx hb dX2_dec_24 (by decide) ?_
        exact ih (i + 1) H locs ls (by omega) hg1 hP hD hS (lv_sub hl [0, 1, 2] rfl)
      · skip
        have hg1 : wn_dg z (i + 1) = 0 := if_neg (q_ : ¬ z i - wn_dg z i = (-1))
        rw [wn_d_stop z (show i + 1 ≤ n by omega) hg1] at hP hD
        have hgn : wn_dg z n = 0 := by have h8 := wn_dg_0 z hg1 (n - (i + 1)); rwa [show i + 1 + (n - (i + 1)) = n by omega] at h8
        refine lv_iconst (v := 0) hx hb dX2_dec_19 (by decide) ?_
        exact wr_iret () hx hb hr hlocks hP hD hS (by first | (rw [hgn]; done) | (rw [hgn]; rfl)) (Nat.zero_le _) (Nat.zero_le _) dX2_dec_20
  have e0 : (ws.set i3 (wr_i dI a3 n3 (wr_f (wn_dw z) z 0))) = ws := by rw [wr_f0]; exact wr_set_self h3
  exact loop n 0 s.heap [] ls (by omega) rfl (by rw [e0]; exact hP) (by rw [e0]; exact hD) hS (lv_sub hl [0, 1, 2] rfl)

set_option maxHeartbeats 4000000 in
set_option maxRecDepth 100000 in
/-- Nat.gte -/
theorem m_gte (l : Launch) (D : va_G) (dI dF : ClassId) (ws : va_W) (sz : Nat) (n i1 i2 a1 a2 n1 n2 : Nat) (x y : Nat → Int32) (h1 : ws[i1]? = some (wr_i dI a1 n1 x)) (h2 : ws[i2]? = some (wr_i dI a2 n2 y)) (l1 : n ≤ n1) (l2 : n ≤ n2) (b1 : n1 < 2 ^ 31) (b2 : n2 < 2 ^ 31) : Met l yX2_gte (ws_ yX2_gte cX2_gte 6 (some .boolean)) wr_r0 (wr_Pc D dI dF [.int (nI n), .ref a1, .ref a2] ws sz) (va_Qi (fun (r : Int32) (_ : Unit) => (wn_v (wn_d y) n ≤ wn_v (wn_d x) n → r = 1) ∧ (¬ wn_v (wn_d y) n ≤ wn_v (wn_d x) n → r = 0)) (fun _ t => wr_B D (va_A ws sz) ws t) (va_A ws sz)) 0 0 (va_A ws sz) := by
  refine Met.ofW (cc := cX2_gte) (maxL := 6) (ret := (some .boolean)) (by decide) rfl ?_
  intro p e s m args below meth c s₁ B hml hv
  obtain ⟨rfl, hsz, hP, hK, hD0⟩ := hv
  have hx := B.exec
  have hb := B.bytes
  have hr := B.returns
  have hts := atoms_spec (ws := ws_ yX2_gte cX2_gte 6 (some .boolean)) B.pre
  have hts : ∀ w ∈ lw_all, w.before _ s = true := fun w h => hts w (List.mem_cons_of_mem _ h)
  have hown : s.vm.findClass RX2 = some m.cls := findClass_of_methodNamed B.named
  have hlocks := B.notSynchronized
  subst hsz
  have hD := hD0.self (sz := s.heap.size)
  generalize hAe : va_A ws s.heap.size = A at hD ⊢
  have hA : ∀ q : Nat, s.heap.size ≤ q → A q := fun q h => by rw [← hAe]; exact Or.inr h
  have hS : va_S A s.heap s.heap [] := va_S.rf
  have hl := lv_entry ([.int (nI n), .ref a1, .ref a2]) (n := 6) (Nat.le_of_ble_eq_true rfl)
  rw [lg_entry_eq]
  generalize (lg_sl ([.int (nI n), .ref a1, .ref a2]) ++ List.replicate (6 - (lg_sl ([.int (nI n), .ref a1, .ref a2])).length) Slot.unset).toArray = ls at hl ⊢
  have hl : lv_has ls 6 [(0, .int (nI n)), (1, .ref a1), (2, .ref a2)] := hl
  refine lv_iload_n hx hb dX2_gte_0 rfl (lv_at hl 0 rfl) ?_
  refine lv_iconst (v := 1) hx hb dX2_gte_1 (by decide) ?_
  refine lv_isub hx hb dX2_gte_2 ?_
  refine lv_istore_n (lv' := [(3, .int ((nI n) - 1)), (0, .int (nI n)), (1, .ref a1), (2, .ref a2)]) hx hb dX2_gte_3 rfl hl (by decide) rfl (fun ls hl => ?_)
  have hB : n < 2 ^ 31 := by omega
  have loop : ∀ (i : Nat) (H : Heap) (locs : List Loc) (ls : Array Slot), i ≤ n → (wn_v (wn_d y) n ≤ wn_v (wn_d x) n ↔ wn_v (wn_d y) i ≤ wn_v (wn_d x) i) → va_P D vwCl ws H → va_D A ws → va_S A s.heap H locs → lv_has ls 6 [(3, .int (nI i - 1)), (0, .int (nI n)), (1, .ref a1), (2, .ref a2)] → W p l e (headSpec (ws_ yX2_gte cX2_gte 6 (some .boolean)) wr_r0).room s m (([.int (nI n), .ref a1, .ref a2] : List Value).toArray) below meth c H locs 0 0 (MQ below (va_Qi (fun (r : Int32) (_ : Unit) => (wn_v (wn_d y) n ≤ wn_v (wn_d x) n → r = 1) ∧ (¬ wn_v (wn_d y) n ≤ wn_v (wn_d x) n → r = 0)) (fun _ t => wr_B D A ws t) A) (([.int (nI n), .ref a1, .ref a2] : List Value).toArray) s 0 0 A) (F0 m 4 ls []) := by
    intro i
    induction i with
    | zero =>
      intro H locs ls hik hE hP hD hS hl
      refine lv_iload_n hx hb dX2_gte_4 rfl (lv_at hl 0 rfl) ?_
      refine lv_if_lt (tgt := 48) hx hb dX2_gte_5 (by decide) (fun _ => ?_) (fun q_ => absurd (by decide) q_)
      refine lv_iconst (v := 1) hx hb dX2_gte_48 (by decide) ?_
      exact wr_zret () hx hb hr hlocks rfl hP hD hS (⟨fun _ => rfl, fun h => absurd (hE.mpr (Nat.le_refl _)) h⟩) (Nat.zero_le _) (Nat.zero_le _) dX2_gte_49
    | succ i ih =>
      intro H locs ls hik hE hP hD hS hl
      rw [nI_pred] at hl
      have hE1 : (wn_v (wn_d y) n ≤ wn_v (wn_d x) n ↔ wn_v (wn_d y) i + wn_w (y i) * wn_p i ≤ wn_v (wn_d x) i + wn_w (x i) * wn_p i) := hE
      refine lv_iload_n hx hb dX2_gte_4 rfl (lv_at hl 0 rfl) ?_
      refine lv_if_lt (tgt := 48) hx hb dX2_gte_5 (by decide) (fun q_ => absurd q_ (nI_pos (by omega))) (fun _ => ?_)
      refine lv_aload_n hx hb dX2_gte_8 rfl (lv_at hl 2 rfl) ?_
      refine lv_iload_n hx hb dX2_gte_9 rfl (lv_at hl 0 rfl) ?_
      refine wr_iald hx hb hK hP h1 (by omega) (b1) dX2_gte_10 ?_
      refine lv_ldc (v := (-2147483648)) hx hb hown (hts _ q91) dX2_gte_11 ?_
      refine lv_iadd hx hb dX2_gte_13 ?_
      refine lv_istore (lv' := [(4, .int ((x i) + (-2147483648))), (3, .int (nI i)), (0, .int (nI n)), (1, .ref a1), (2, .ref a2)]) hx hb dX2_gte_14 hl (by decide) rfl (fun ls hl => ?_)
      refine lv_aload_n hx hb dX2_gte_16 rfl (lv_at hl 4 rfl) ?_
      refine lv_iload_n hx hb dX2_gte_17 rfl (lv_at hl 1 rfl) ?_
      refine wr_iald hx hb hK hP h2 (by omega) (b2) dX2_gte_18 ?_
      refine lv_ldc (v := (-2147483648)) hx hb hown (hts _ q91) dX2_gte_19 ?_
      refine lv_iadd hx hb dX2_gte_21 ?_
      refine lv_istore (lv' := [(5, .int ((y i) + (-2147483648))), (4, .int ((x i) + (-2147483648))), (3, .int (nI i)), (0, .int (nI n)), (1, .ref a1), (2, .ref a2)]) hx hb dX2_gte_22 hl (by decide) rfl (fun ls hl => ?_)
      refine lv_iload hx hb dX2_gte_24 (lv_at hl 1 rfl) ?_
      refine lv_iload hx hb dX2_gte_26 (lv_at hl 0 rfl) ?_
      refine lv_icmp_ge (tgt := 33) hx hb dX2_gte_28 (by decide) (fun q_ => ?_) (fun q_ => ?_)
      · skip
        have g1 : ¬ wn_w (x i) < wn_w (y i) := fun h => absurd ((wn_ult _ _).mpr h) (Int32.not_lt.mpr q_)
        refine lv_iload hx hb dX2_gte_33 (lv_at hl 1 rfl) ?_
        refine lv_iload hx hb dX2_gte_35 (lv_at hl 0 rfl) ?_
        refine lv_icmp_le (tgt := 42) hx hb dX2_gte_37 (by decide) (fun q2 => ?_) (fun q2 => ?_)
        · skip
          have g2 : ¬ wn_w (y i) < wn_w (x i) := fun h => absurd ((wn_ult _ _).mpr h) (Int32.not_lt.mpr q2)
          have g3 : wn_w (x i) = wn_w (y i) := by omega
          rw [g3] at hE1
          refine lv_iinc (v := nI i - 1) (lv' := [(3, .int (nI i - 1)), (5, .int ((y i) + (-2147483648))), (4, .int ((x i) + (-2147483648))), (0, .int (nI n)), (1, .ref a1), (2, .ref a2)]) hx hb dX2_gte_42 hl (k := 2) rfl (wn_dec1 i) (by decide) rfl (fun ls hl => ?_)
          refine lv_goto (tgt := 4) hx hb dX2_gte_45 (by decide) ?_
          exact ih H locs ls (by omega) (by rw [hE1]; exact Nat.add_le_add_iff_right) hP hD hS (lv_sub hl [0, 3, 4, 5] rfl)
        · skip
          have g2 : wn_w (y i) < wn_w (x i) := (wn_ult _ _).mp (Int32.not_le.mp q2)
          have g4 := wn_gt (fun j => wn_w_lt (y j)) (fun j => wn_w_lt (x j)) g2
          refine lv_iconst (v := 1) hx hb dX2_gte_40 (by decide) ?_
          exact wr_zret () hx hb hr hlocks rfl hP hD hS (⟨fun _ => rfl, fun h => absurd (hE.mpr (Nat.le_of_lt g4)) h⟩) (Nat.zero_le _) (Nat.zero_le _) dX2_gte_41
      · skip
        have g1 : wn_w (x i) < wn_w (y i) := (wn_ult _ _).mp (Int32.not_le.mp q_)
        have g4 := wn_gt (fun j => wn_w_lt (x j)) (fun j => wn_w_lt (y j)) g1
        refine lv_iconst (v := 0) hx hb dX2_gte_31 (by decide) ?_
        exact wr_zret () hx hb hr hlocks rfl hP hD hS (⟨fun h => absurd (hE.mp h) (Nat.not_le.mpr g4), fun _ => rfl⟩) (Nat.zero_le _) (Nat.zero_le _) dX2_gte_32
  exact loop n s.heap [] ls (Nat.le_refl n) Iff.rfl hP hD hS (lv_sub hl [0, 1, 2, 3] rfl)
end
section
/-! Nat: the methods that call others -/
set_option maxHeartbeats 4000000 in
set_option maxRecDepth 100000 in
/-- Nat.mul: the wide row gets the product -/
theorem m_mul (l : Launch) (D : va_G) (dI dF : ClassId) (ws : va_W) (sz : Nat) (n i1 i2 i3 a1 a2 a3 n1 n2 n3 : Nat) (x y z : Nat → Int32) (h1 : ws[i1]? = some (wr_i dI a1 n1 x)) (h2 : ws[i2]? = some (wr_i dI a2 n2 y)) (h3 : ws[i3]? = some (wr_i dI a3 n3 z)) (d1 : i1 ≠ i3) (d2 : i2 ≠ i3) (hn : 1 ≤ n) (l1 : n ≤ n1) (l2 : n ≤ n2) (l3 : n + n ≤ n3) (b1 : n1 < 2 ^ 31) (b2 : n2 < 2 ^ 31) (b3 : n3 < 2 ^ 31) : Met l yX2_mul (ws_ yX2_mul cX2_mul 5 none) wr_r1 (wr_Pc D dI dF [.int (nI n), .ref a1, .ref a2, .ref a3] ws sz) (va_Qv (fun (u : Nat → Int32) => wn_v (wn_d u) (n + n) = wn_v (wn_d x) n * wn_v (wn_d y) n) (fun u t => wr_B D (va_A ws sz) (ws.set i3 (wr_i dI a3 n3 u)) t) (va_A ws sz)) 0 0 (va_A ws sz) := by
  refine Met.ofW (cc := cX2_mul) (maxL := 5) (ret := none) (by decide) rfl ?_
  intro p e s m args below meth c s₁ B hml hv
  obtain ⟨rfl, hsz, hP, hK, hD0⟩ := hv
  have hx := B.exec
  have hb := B.bytes
  have hr := B.returns
  have hts := atoms_spec (ws := ws_ yX2_mul cX2_mul 5 none) B.pre
  have hts : ∀ w ∈ lw_all, w.before _ s = true := fun w h => hts w (List.mem_cons_of_mem _ h)
  have hown : s.vm.findClass RX2 = some m.cls := findClass_of_methodNamed B.named
  have hlocks := B.notSynchronized
  subst hsz
  have hD := hD0.self (sz := s.heap.size)
  generalize hAe : va_A ws s.heap.size = A at hD ⊢
  have hA : ∀ q : Nat, s.heap.size ≤ q → A q := fun q h => by rw [← hAe]; exact Or.inr h
  have hS : va_S A s.heap s.heap [] := va_S.rf
  have hl := lv_entry ([.int (nI n), .ref a1, .ref a2, .ref a3]) (n := 5) (Nat.le_of_ble_eq_true rfl)
  rw [lg_entry_eq]
  generalize (lg_sl ([.int (nI n), .ref a1, .ref a2, .ref a3]) ++ List.replicate (5 - (lg_sl ([.int (nI n), .ref a1, .ref a2, .ref a3])).length) Slot.unset).toArray = ls at hl ⊢
  have hl : lv_has ls 5 [(0, .int (nI n)), (1, .ref a1), (2, .ref a2), (3, .ref a3)] := hl
  have hB : n < 2 ^ 31 := by omega
  refine lv_aload_n hx hb dX2_mul_0 rfl (lv_at hl 3 rfl) ?_
  refine lv_iload_n hx hb dX2_mul_1 rfl (lv_at hl 0 rfl) ?_
  refine lv_iload_n hx hb dX2_mul_2 rfl (lv_at hl 0 rfl) ?_
  refine lv_aload_n hx hb dX2_mul_3 rfl (lv_at hl 1 rfl) ?_
  refine lv_iconst (v := nI 0) hx hb dX2_mul_4 (by decide) ?_
  refine wr_iald hx hb hK hP h1 (by omega) (b1) dX2_mul_5 ?_
  refine lv_aload_n hx hb dX2_mul_6 rfl (lv_at hl 2 rfl) ?_
  refine lv_aload_n hx hb dX2_mul_7 rfl (lv_at hl 3 rfl) ?_
  refine wr_calli0 hD hS hA (va_runS (As := [.int (nI n), .int (x 0), .ref a2, .ref a3]) (rest := [.int (nI n), .ref a3]) ⟨hx, hb, hml, hown, hts⟩ (m_mulWord l D dI dF ws s.heap.size n i2 i3 a2 a3 n2 n3 (x 0) y z h2 h3 hn l2 (by omega) b2 b3) (va_cwS 4 hts (lw_S q29 q30 q2 q31) rfl rfl rfl (by decide +kernel) ⟨Nat.le_of_ble_eq_true rfl, Nat.le_of_ble_eq_true rfl⟩) (wr_preS hP hK hD) rfl rfl hl.1 rfl (lv_room (Nat.le_of_ble_eq_true rfl)) dX2_mul_8 ⟨Nat.le_of_ble_eq_true rfl, Nat.le_of_ble_eq_true rfl⟩) (fun r u H locs hp hP hD hS => ?_)
  subst hp
  refine wr_iast hx hb hK hP hD hS (wr_set_at h3) (by omega) (b3) ((ws.set i3 (wr_i dI a3 n3 (upd (wr_f (wn_cw (wn_gM (wn_w (x 0)) y)) z n) n (nI (wn_c (wn_gM (wn_w (x 0)) y) n)))))) (wr_set_set) dX2_mul_11 (fun H locs hP hD hS => ?_)
  have hV1 : wn_v (wn_d (upd (wr_f (wn_cw (wn_gM (wn_w (x 0)) y)) z n) n (nI (wn_c (wn_gM (wn_w (x 0)) y) n)))) (1 + n) = wn_v (wn_d x) 1 * wn_v (wn_d y) n := wn_mul_first x y z n
  refine lv_iconst (v := nI 1) hx hb dX2_mul_12 (by decide) ?_
  refine lv_istore (lv' := [(4, .int (nI 1)), (0, .int (nI n)), (1, .ref a1), (2, .ref a2), (3, .ref a3)]) hx hb dX2_mul_13 hl (by decide) rfl (fun ls hl => ?_)
  have loop : ∀ (k i : Nat) (Z : Nat → Int32) (H : Heap) (locs : List Loc) (ls : Array Slot), i + k = n → wn_v (wn_d Z) (i + n) = wn_v (wn_d x) i * wn_v (wn_d y) n → va_P D vwCl (ws.set i3 (wr_i dI a3 n3 Z)) H → va_D A (ws.set i3 (wr_i dI a3 n3 Z)) → va_S A s.heap H locs → lv_has ls 5 [(4, .int (nI i)), (0, .int (nI n)), (1, .ref a1), (2, .ref a2), (3, .ref a3)] → W p l e (headSpec (ws_ yX2_mul cX2_mul 5 none) wr_r1).room s m (([.int (nI n), .ref a1, .ref a2, .ref a3] : List Value).toArray) below meth c H locs 0 0 (MQ below (va_Qv (fun (u : Nat → Int32) => wn_v (wn_d u) (n + n) = wn_v (wn_d x) n * wn_v (wn_d y) n) (fun u t => wr_B D A (ws.set i3 (wr_i dI a3 n3 u)) t) A) (([.int (nI n), .ref a1, .ref a2, .ref a3] : List Value).toArray) s 0 0 A) (F0 m 15 ls []) := by
    intro k
    induction k with
    | zero =>
      intro i Z H locs ls hik hV hP hD hS hl
      have hin : i = n := by omega
      rw [hin] at hl hV
      refine lv_iload hx hb dX2_mul_15 (lv_at hl 0 rfl) ?_
      refine lv_iload_n hx hb dX2_mul_17 rfl (lv_at hl 1 rfl) ?_
      refine lv_icmp_ge (tgt := 46) hx hb dX2_mul_18 (by decide) (fun _ => ?_) (fun q_ => absurd (nI_le (Nat.le_refl n) hB) q_)
      exact wr_vret Z hx hb hr hlocks hP hD hS (hV) (Nat.zero_le _) (Nat.zero_le _) dX2_mul_46
    | succ k ih =>
      intro i Z H locs ls hik hV hP hD hS hl
      have hi : i < n := by omega
      have e1 : (ws.set i3 (wr_i dI a3 n3 Z))[i1]? = some (wr_i dI a1 n1 x) := (wr_set_ne d1).trans h1
      have e2 : (ws.set i3 (wr_i dI a3 n3 Z))[i2]? = some (wr_i dI a2 n2 y) := (wr_set_ne d2).trans h2
      refine lv_iload hx hb dX2_mul_15 (lv_at hl 0 rfl) ?_
      refine lv_iload_n hx hb dX2_mul_17 rfl (lv_at hl 1 rfl) ?_
      refine lv_icmp_ge (tgt := 46) hx hb dX2_mul_18 (by decide) (fun q_ => absurd q_ (nI_ge hi hB)) (fun _ => ?_)
      refine lv_aload_n hx hb dX2_mul_21 rfl (lv_at hl 4 rfl) ?_
      refine lv_iload hx hb dX2_mul_22 (lv_at hl 0 rfl) ?_
      refine lv_iload_n hx hb dX2_mul_24 rfl (lv_at hl 1 rfl) ?_
      refine lv_iadd hx hb dX2_mul_25 ?_
      refine wr_topi (nI (i + n)) (nI_add _ _) ?_
      refine lv_iload_n hx hb dX2_mul_26 rfl (lv_at hl 1 rfl) ?_
      refine lv_aload_n hx hb dX2_mul_27 rfl (lv_at hl 2 rfl) ?_
      refine lv_iload hx hb dX2_mul_28 (lv_at hl 0 rfl) ?_
      refine wr_iald hx hb hK hP e1 (by omega) (b1) dX2_mul_30 ?_
      refine lv_aload_n hx hb dX2_mul_31 rfl (lv_at hl 3 rfl) ?_
      refine lv_iconst (v := nI 0) hx hb dX2_mul_32 (by decide) ?_
      refine lv_aload_n hx hb dX2_mul_33 rfl (lv_at hl 4 rfl) ?_
      refine lv_iload hx hb dX2_mul_34 (lv_at hl 0 rfl) ?_
      refine wr_calli0 hD hS hA (va_runS (As := [.int (nI n), .int (x i), .ref a2, .int (nI 0), .ref a3, .int (nI i)]) (rest := [.int (nI (i + n)), .ref a3]) ⟨hx, hb, hml, hown, hts⟩ (m_mulWordAddTo l D dI dF (ws.set i3 (wr_i dI a3 n3 Z)) H.size n i i2 i3 a2 a3 n2 n3 (x i) y Z e2 (wr_set_at h3) d2 hn l2 (by omega) b2 b3) (va_cwS 6 hts (lw_S q32 q33 q2 q34) rfl rfl rfl (by decide +kernel) ⟨Nat.le_of_ble_eq_true rfl, Nat.le_of_ble_eq_true rfl⟩) (wr_preS hP hK hD) rfl rfl hl.1 rfl (lv_room (Nat.le_of_ble_eq_true rfl)) dX2_mul_36 ⟨Nat.le_of_ble_eq_true rfl, Nat.le_of_ble_eq_true rfl⟩) (fun r u H locs hp hP hD hS => ?_)
      subst hp
      rw [wr_set_set] at hP hD
      refine wr_iast hx hb hK hP hD hS (wr_set_at h3) (by omega) (b3) ((ws.set i3 (wr_i dI a3 n3 (upd (wr_g (wn_cw (wn_T (wn_w (x i)) y Z i)) Z i n) (i + n) (nI (wn_c (wn_T (wn_w (x i)) y Z i) n)))))) (wr_set_set) dX2_mul_39 (fun H locs hP hD hS => ?_)
      refine lv_iinc (v := nI (i + 1)) (lv' := [(4, .int (nI (i + 1))), (0, .int (nI n)), (1, .ref a1), (2, .ref a2), (3, .ref a3)]) hx hb dX2_mul_40 hl (k := 0) rfl (wn_inc i) (by decide) rfl (fun ls hl => ?_)
      refine lv_goto (tgt := 15) hx hb dX2_mul_43 (by decide) ?_
      exact ih (i + 1) (upd (wr_g (wn_cw (wn_T (wn_w (x i)) y Z i)) Z i n) (i + n) (nI (wn_c (wn_T (wn_w (x i)) y Z i) n))) H locs ls (by omega) (by rw [show i + 1 + n = i + n + 1 by omega, wn_mul_step (wn_w_lt (x i)) y Z i n, hV]; exact wn_mul_next) hP hD hS (lv_sub hl [0, 1, 2, 3, 4] rfl)
  exact loop (n - 1) 1 _ H locs ls (by omega) hV1 hP hD hS (lv_sub hl [0, 1, 2, 3, 4] rfl)

set_option maxHeartbeats 4000000 in
set_option maxRecDepth 100000 in
/-- Nat.mulAddTo: the product added to the wide row -/
theorem m_mulAddTo (l : Launch) (D : va_G) (dI dF : ClassId) (ws : va_W) (sz : Nat) (n i1 i2 i3 a1 a2 a3 n1 n2 n3 : Nat) (x y z : Nat → Int32) (h1 : ws[i1]? = some (wr_i dI a1 n1 x)) (h2 : ws[i2]? = some (wr_i dI a2 n2 y)) (h3 : ws[i3]? = some (wr_i dI a3 n3 z)) (d1 : i1 ≠ i3) (d2 : i2 ≠ i3) (hn : 1 ≤ n) (l1 : n ≤ n1) (l2 : n ≤ n2) (l3 : n + n ≤ n3) (b1 : n1 < 2 ^ 31) (b2 : n2 < 2 ^ 31) (b3 : n3 < 2 ^ 31) : Met l yX2_mulAddTo (ws_ yX2_mulAddTo cX2_mulAddTo 7 (some .int)) wr_r1 (wr_Pc D dI dF [.int (nI n), .ref a1, .ref a2, .ref a3] ws sz) (va_Qi (fun (r : Int32) (u : Nat → Int32) => ∃ q : Nat, q ≤ 1 ∧ r = nI q ∧ wn_v (wn_d u) (n + n) + q * wn_p (n + n) = wn_v (wn_d z) (n + n) + wn_v (wn_d x) n * wn_v (wn_d y) n) (fun u t => wr_B D (va_A ws sz) (ws.set i3 (wr_i dI a3 n3 u)) t) (va_A ws sz)) 0 0 (va_A ws sz) := by
  refine Met.ofW (cc := cX2_mulAddTo) (maxL := 7) (ret := (some .int)) (by decide) rfl ?_
  intro p e s m args below meth c s₁ B hml hv
  obtain ⟨rfl, hsz, hP, hK, hD0⟩ := hv
  have hx := B.exec
  have hb := B.bytes
  have hr := B.returns
  have hts := atoms_spec (ws := ws_ yX2_mulAddTo cX2_mulAddTo 7 (some .int)) B.pre
  have hts : ∀ w ∈ lw_all, w.before _ s = true := fun w h => hts w (List.mem_cons_of_mem _ h)
  have hown : s.vm.findClass RX2 = some m.cls := findClass_of_methodNamed B.named
  have hlocks := B.notSynchronized
  subst hsz
  have hD := hD0.self (sz := s.heap.size)
  generalize hAe : va_A ws s.heap.size = A at hD ⊢
  have hA : ∀ q : Nat, s.heap.size ≤ q → A q := fun q h => by rw [← hAe]; exact Or.inr h
  have hS : va_S A s.heap s.heap [] := va_S.rf
  have hl := lv_entry ([.int (nI n), .ref a1, .ref a2, .ref a3]) (n := 7) (Nat.le_of_ble_eq_true rfl)
  rw [lg_entry_eq]
  generalize (lg_sl ([.int (nI n), .ref a1, .ref a2, .ref a3]) ++ List.replicate (7 - (lg_sl ([.int (nI n), .ref a1, .ref a2, .ref a3])).length) Slot.unset).toArray = ls at hl ⊢
  have hl : lv_has ls 7 [(0, .int (nI n)), (1, .ref a1), (2, .ref a2), (3, .ref a3)] := hl
  have hB : n < 2 ^ 31 := by omega
  refine lv_lconst (v := lN 0) hx hb dX2_mulAddTo_0 (by decide) ?_
  refine lv_lstore (lv' := [(4, .long (lN 0)), (0, .int (nI n)), (1, .ref a1), (2, .ref a2), (3, .ref a3)]) hx hb dX2_mulAddTo_1 hl (by decide) rfl (fun ls hl => ?_)
  refine lv_iconst (v := nI 0) hx hb dX2_mulAddTo_3 (by decide) ?_
  refine lv_istore (lv' := [(6, .int (nI 0)), (4, .long (lN 0)), (0, .int (nI n)), (1, .ref a1), (2, .ref a2), (3, .ref a3)]) hx hb dX2_mulAddTo_4 hl (by decide) rfl (fun ls hl => ?_)
  have loop : ∀ (k i zc : Nat) (Z : Nat → Int32) (H : Heap) (locs : List Loc) (ls : Array Slot), i + k = n → zc ≤ 1 → wn_v (wn_d Z) (i + n) + zc * wn_p (i + n) = wn_v (wn_d z) (i + n) + wn_v (wn_d x) i * wn_v (wn_d y) n → (∀ j, i + n ≤ j → Z j = z j) → va_P D vwCl (ws.set i3 (wr_i dI a3 n3 Z)) H → va_D A (ws.set i3 (wr_i dI a3 n3 Z)) → va_S A s.heap H locs → lv_has ls 7 [(6, .int (nI i)), (4, .long (lN zc)), (0, .int (nI n)), (1, .ref a1), (2, .ref a2), (3, .ref a3)] → W p l e (headSpec (ws_ yX2_mulAddTo cX2_mulAddTo 7 (some .int)) wr_r1).room s m (([.int (nI n), .ref a1, .ref a2, .ref a3] : List Value).toArray) below meth c H locs 0 0 (MQ below (va_Qi (fun (r : Int32) (u : Nat → Int32) => ∃ q : Nat, q ≤ 1 ∧ r = nI q ∧ wn_v (wn_d u) (n + n) + q * wn_p (n + n) = wn_v (wn_d z) (n + n) + wn_v (wn_d x) n * wn_v (wn_d y) n) (fun u t => wr_B D A (ws.set i3 (wr_i dI a3 n3 u)) t) A) (([.int (nI n), .ref a1, .ref a2, .ref a3] : List Value).toArray) s 0 0 A) (F0 m 6 ls []) := by
    intro k
    induction k with
    | zero =>
      intro i zc Z H locs ls hik hc hV hZ hP hD hS hl
      have hin : i = n := by omega
      rw [hin] at hl hV
      refine lv_iload hx hb dX2_mulAddTo_6 (lv_at hl 0 rfl) ?_
      refine lv_iload_n hx hb dX2_mulAddTo_8 rfl (lv_at hl 2 rfl) ?_
      refine lv_icmp_ge (tgt := 73) hx hb dX2_mulAddTo_9 (by decide) (fun _ => ?_) (fun q_ => absurd (nI_le (Nat.le_refl n) hB) q_)
      refine lv_lload hx hb dX2_mulAddTo_73 (lv_at hl 1 rfl) ?_
      refine lv_l2i (v := nI zc) hx hb dX2_mulAddTo_75 (lN_i _) ?_
      exact wr_iret Z hx hb hr hlocks hP hD hS (⟨zc, hc, rfl, hV⟩) (Nat.zero_le _) (Nat.zero_le _) dX2_mulAddTo_76
    | succ k ih =>
      intro i zc Z H locs ls hik hc hV hZ hP hD hS hl
      have hi : i < n := by omega
      have e1 : (ws.set i3 (wr_i dI a3 n3 Z))[i1]? = some (wr_i dI a1 n1 x) := (wr_set_ne d1).trans h1
      have e2 : (ws.set i3 (wr_i dI a3 n3 Z))[i2]? = some (wr_i dI a2 n2 y) := (wr_set_ne d2).trans h2
      have hcl : wn_c (wn_T (wn_w (x i)) y Z i) n < 4294967296 := wn_c_lt (wn_gT_le (wn_w_lt (x i)) y _) n
      have hzl := wn_w_lt (z (i + n))
      refine lv_iload hx hb dX2_mulAddTo_6 (lv_at hl 0 rfl) ?_
      refine lv_iload_n hx hb dX2_mulAddTo_8 rfl (lv_at hl 2 rfl) ?_
      refine lv_icmp_ge (tgt := 73) hx hb dX2_mulAddTo_9 (by decide) (fun q_ => absurd q_ (nI_ge hi hB)) (fun _ => ?_)
      refine lv_lload hx hb dX2_mulAddTo_12 (lv_at hl 1 rfl) ?_
      refine lv_iload_n hx hb dX2_mulAddTo_14 rfl (lv_at hl 2 rfl) ?_
      refine lv_aload_n hx hb dX2_mulAddTo_15 rfl (lv_at hl 3 rfl) ?_
      refine lv_iload hx hb dX2_mulAddTo_16 (lv_at hl 0 rfl) ?_
      refine wr_iald hx hb hK hP e1 (by omega) (b1) dX2_mulAddTo_18 ?_
      refine lv_aload_n hx hb dX2_mulAddTo_19 rfl (lv_at hl 4 rfl) ?_
      refine lv_iconst (v := nI 0) hx hb dX2_mulAddTo_20 (by decide) ?_
      refine lv_aload_n hx hb dX2_mulAddTo_21 rfl (lv_at hl 5 rfl) ?_
      refine lv_iload hx hb dX2_mulAddTo_22 (lv_at hl 0 rfl) ?_
      refine wr_calli0 hD hS hA (va_runS (As := [.int (nI n), .int (x i), .ref a2, .int (nI 0), .ref a3, .int (nI i)]) (rest := [.long (lN zc)]) ⟨hx, hb, hml, hown, hts⟩ (m_mulWordAddTo l D dI dF (ws.set i3 (wr_i dI a3 n3 Z)) H.size n i i2 i3 a2 a3 n2 n3 (x i) y Z e2 (wr_set_at h3) d2 hn l2 (by omega) b2 b3) (va_cwS 6 hts (lw_S q32 q33 q2 q34) rfl rfl rfl (by decide +kernel) ⟨Nat.le_of_ble_eq_true rfl, Nat.le_of_ble_eq_true rfl⟩) (wr_preS hP hK hD) rfl rfl hl.1 rfl (lv_room (Nat.le_of_ble_eq_true rfl)) dX2_mulAddTo_24 ⟨Nat.le_of_ble_eq_true rfl, Nat.le_of_ble_eq_true rfl⟩) (fun r u H locs hp hP hD hS => ?_)
      subst hp
      rw [wr_set_set] at hP hD
      refine lv_i2l (v := (nI (wn_c (wn_T (wn_w (x i)) y Z i) n)).toInt64) hx hb dX2_mulAddTo_27 (rfl) ?_
      refine lv_ldc2 (v := 4294967295) hx hb hown (hts _ q14) dX2_mulAddTo_28 ?_
      refine lv_land hx hb dX2_mulAddTo_31 ?_
      refine wr_topl (lN (wn_c (wn_T (wn_w (x i)) y Z i) n)) ((wn_i2l _).trans (by rw [wn_w_lt' hcl])) ?_
      refine lv_ladd hx hb dX2_mulAddTo_32 ?_
      refine wr_topl (lN (zc + (wn_c (wn_T (wn_w (x i)) y Z i) n))) (lN_add _ _) ?_
      refine lv_lstore (lv' := [(4, .long (lN (zc + (wn_c (wn_T (wn_w (x i)) y Z i) n)))), (6, .int (nI i)), (0, .int (nI n)), (1, .ref a1), (2, .ref a2), (3, .ref a3)]) hx hb dX2_mulAddTo_33 hl (by decide) rfl (fun ls hl => ?_)
      refine lv_lload hx hb dX2_mulAddTo_35 (lv_at hl 0 rfl) ?_
      refine lv_aload_n hx hb dX2_mulAddTo_37 rfl (lv_at hl 5 rfl) ?_
      refine lv_iload hx hb dX2_mulAddTo_38 (lv_at hl 1 rfl) ?_
      refine lv_iload_n hx hb dX2_mulAddTo_40 rfl (lv_at hl 2 rfl) ?_
      refine lv_iadd hx hb dX2_mulAddTo_41 ?_
      refine wr_topi (nI (i + n)) (nI_add _ _) ?_
      have v3 : (wr_g (wn_cw (wn_T (wn_w (x i)) y Z i)) Z i n) (i + n) = z (i + n) := (wr_go _ _ (Or.inr (Nat.le_refl _))).trans (hZ _ (Nat.le_refl _))
      refine wr_iald hx hb hK hP (wr_set_at h3) (by omega) (b3) dX2_mulAddTo_42 ?_
      refine lv_i2l (v := ((wr_g (wn_cw (wn_T (wn_w (x i)) y Z i)) Z i n) (i + n)).toInt64) hx hb dX2_mulAddTo_43 (rfl) ?_
      refine lv_ldc2 (v := 4294967295) hx hb hown (hts _ q14) dX2_mulAddTo_44 ?_
      refine lv_land hx hb dX2_mulAddTo_47 ?_
      refine wr_topl (lN (wn_w (z (i + n)))) (by rw [v3]; exact wn_i2l _) ?_
      refine lv_ladd hx hb dX2_mulAddTo_48 ?_
      refine wr_topl (lN (zc + (wn_c (wn_T (wn_w (x i)) y Z i) n) + wn_w (z (i + n)))) (lN_add _ _) ?_
      refine lv_lstore (lv' := [(4, .long (lN (zc + (wn_c (wn_T (wn_w (x i)) y Z i) n) + wn_w (z (i + n))))), (6, .int (nI i)), (0, .int (nI n)), (1, .ref a1), (2, .ref a2), (3, .ref a3)]) hx hb dX2_mulAddTo_49 hl (by decide) rfl (fun ls hl => ?_)
      refine lv_aload_n hx hb dX2_mulAddTo_51 rfl (lv_at hl 5 rfl) ?_
      refine lv_iload hx hb dX2_mulAddTo_52 (lv_at hl 1 rfl) ?_
      refine lv_iload_n hx hb dX2_mulAddTo_54 rfl (lv_at hl 2 rfl) ?_
      refine lv_iadd hx hb dX2_mulAddTo_55 ?_
      refine wr_topi (nI (i + n)) (nI_add _ _) ?_
      refine lv_lload hx hb dX2_mulAddTo_56 (lv_at hl 0 rfl) ?_
      refine lv_l2i (v := nI (zc + (wn_c (wn_T (wn_w (x i)) y Z i) n) + wn_w (z (i + n)))) hx hb dX2_mulAddTo_58 (lN_i _) ?_
      refine wr_iast hx hb hK hP hD hS (wr_set_at h3) (by omega) (b3) ((ws.set i3 (wr_i dI a3 n3 (upd (wr_g (wn_cw (wn_T (wn_w (x i)) y Z i)) Z i n) (i + n) (nI (zc + (wn_c (wn_T (wn_w (x i)) y Z i) n) + wn_w (z (i + n)))))))) (wr_set_set) dX2_mulAddTo_59 (fun H locs hP hD hS => ?_)
      refine lv_lload hx hb dX2_mulAddTo_60 (lv_at hl 0 rfl) ?_
      refine lv_bipush (v := 32) hx hb dX2_mulAddTo_62 (by decide) ?_
      refine lv_lushr (v := lN ((zc + (wn_c (wn_T (wn_w (x i)) y Z i) n) + wn_w (z (i + n))) / 4294967296)) hx hb dX2_mulAddTo_64 (wn_shr32 (by omega)) ?_
      refine lv_lstore (lv' := [(4, .long (lN ((zc + (wn_c (wn_T (wn_w (x i)) y Z i) n) + wn_w (z (i + n))) / 4294967296))), (6, .int (nI i)), (0, .int (nI n)), (1, .ref a1), (2, .ref a2), (3, .ref a3)]) hx hb dX2_mulAddTo_65 hl (by decide) rfl (fun ls hl => ?_)
      refine lv_iinc (v := nI (i + 1)) (lv' := [(6, .int (nI (i + 1))), (4, .long (lN ((zc + (wn_c (wn_T (wn_w (x i)) y Z i) n) + wn_w (z (i + n))) / 4294967296))), (0, .int (nI n)), (1, .ref a1), (2, .ref a2), (3, .ref a3)]) hx hb dX2_mulAddTo_67 hl (k := 1) rfl (wn_inc i) (by decide) rfl (fun ls hl => ?_)
      refine lv_goto (tgt := 6) hx hb dX2_mulAddTo_70 (by decide) ?_
      have hst := wn_acc_step (w := wn_w (x i)) (zc := zc) y Z i n hV
      rw [hZ (i + n) (Nat.le_refl _)] at hst
      have hV2 : wn_v (wn_d (upd (wr_g (wn_cw (wn_T (wn_w (x i)) y Z i)) Z i n) (i + n) (nI (zc + (wn_c (wn_T (wn_w (x i)) y Z i) n) + wn_w (z (i + n)))))) (i + 1 + n) + ((zc + (wn_c (wn_T (wn_w (x i)) y Z i) n) + wn_w (z (i + n))) / 4294967296) * wn_p (i + 1 + n) = wn_v (wn_d z) (i + 1 + n) + wn_v (wn_d x) (i + 1) * wn_v (wn_d y) n := by
        rw [show i + 1 + n = i + n + 1 by omega]
        refine hst.trans ?_
        have s1 : wn_v (wn_d z) (i + n + 1) = wn_v (wn_d z) (i + n) + wn_w (z (i + n)) * wn_p (i + n) := rfl
        have s2 : wn_v (wn_d x) (i + 1) = wn_v (wn_d x) i + wn_w (x i) * wn_p i := rfl
        rw [s1, s2, Nat.add_mul, Nat.mul_comm (wn_w (x i)) (wn_p i), Nat.mul_assoc]
        omega
      exact ih (i + 1) _ (upd (wr_g (wn_cw (wn_T (wn_w (x i)) y Z i)) Z i n) (i + n) (nI (zc + (wn_c (wn_T (wn_w (x i)) y Z i) n) + wn_w (z (i + n))))) H locs ls (by omega) (by omega) hV2 (fun j hj => by rw [pk_un (by omega), wr_go _ _ (by omega)]; exact hZ j (by omega)) hP hD hS (lv_sub hl [0, 1, 2, 3, 4, 5] rfl)
  have e0 : (ws.set i3 (wr_i dI a3 n3 z)) = ws := wr_set_self h3
  exact loop n 0 0 z s.heap [] ls (by omega) (Nat.zero_le _) (by simp [wn_v]) (fun _ _ => rfl) (by rw [e0]; exact hP) (by rw [e0]; exact hD) hS (lv_sub hl [0, 1, 2, 3, 4, 5] rfl)

set_option maxHeartbeats 4000000 in
set_option maxRecDepth 100000 in
/-- Nat.square: the wide row gets the square -/
theorem m_square (l : Launch) (D : va_G) (dI dF : ClassId) (ws : va_W) (sz : Nat) (n i1 i3 a1 a3 n1 n3 : Nat) (x z : Nat → Int32) (h1 : ws[i1]? = some (wr_i dI a1 n1 x)) (h3 : ws[i3]? = some (wr_i dI a3 n3 z)) (d1 : i1 ≠ i3) (hn : 1 ≤ n) (l1 : n ≤ n1) (l3 : n + n ≤ n3) (b1 : n1 < 2 ^ 30) (b3 : n3 < 2 ^ 31) : Met l yX2_square (ws_ yX2_square cX2_square 11 none) wr_r1 (wr_Pc D dI dF [.int (nI n), .ref a1, .ref a3] ws sz) (va_Qv (fun (u : Nat → Int32) => wn_v (wn_d u) (n + n) = wn_v (wn_d x) n * wn_v (wn_d x) n) (fun u t => wr_B D (va_A ws sz) (ws.set i3 (wr_i dI a3 n3 u)) t) (va_A ws sz)) 0 0 (va_A ws sz) := by
  refine Met.ofW (cc := cX2_square) (maxL := 11) (ret := none) (by decide) rfl ?_
  intro p e s m args below meth c s₁ B hml hv
  obtain ⟨rfl, hsz, hP, hK, hD0⟩ := hv
  have hx := B.exec
  have hb := B.bytes
  have hr := B.returns
  have hts := atoms_spec (ws := ws_ yX2_square cX2_square 11 none) B.pre
  have hts : ∀ w ∈ lw_all, w.before _ s = true := fun w h => hts w (List.mem_cons_of_mem _ h)
  have hown : s.vm.findClass RX2 = some m.cls := findClass_of_methodNamed B.named
  have hlocks := B.notSynchronized
  subst hsz
  have hD := hD0.self (sz := s.heap.size)
  generalize hAe : va_A ws s.heap.size = A at hD ⊢
  have hA : ∀ q : Nat, s.heap.size ≤ q → A q := fun q h => by rw [← hAe]; exact Or.inr h
  have hS : va_S A s.heap s.heap [] := va_S.rf
  have hl := lv_entry ([.int (nI n), .ref a1, .ref a3]) (n := 11) (Nat.le_of_ble_eq_true rfl)
  rw [lg_entry_eq]
  generalize (lg_sl ([.int (nI n), .ref a1, .ref a3]) ++ List.replicate (11 - (lg_sl ([.int (nI n), .ref a1, .ref a3])).length) Slot.unset).toArray = ls at hl ⊢
  have hl : lv_has ls 11 [(0, .int (nI n)), (1, .ref a1), (2, .ref a3)] := hl
  have hB : n < 2 ^ 30 := by omega
  have b1 : n1 < 2 ^ 31 := by omega
  refine lv_iload_n hx hb dX2_square_0 rfl (lv_at hl 0 rfl) ?_
  refine lv_iconst (v := 1) hx hb dX2_square_1 (by decide) ?_
  refine lv_ishl hx hb dX2_square_2 ?_
  refine wr_topi (nI (n + n)) (wn_shl1 n hB) ?_
  refine lv_istore_n (lv' := [(3, .int (nI (n + n))), (0, .int (nI n)), (1, .ref a1), (2, .ref a3)]) hx hb dX2_square_3 rfl hl (by decide) rfl (fun ls hl => ?_)
  refine lv_iconst (v := 0) hx hb dX2_square_4 (by decide) ?_
  refine wr_topi (nI (wn_q x n n)) (by rw [wn_q_n]; rfl) ?_
  refine lv_istore (lv' := [(4, .int (nI (wn_q x n n))), (3, .int (nI (n + n))), (0, .int (nI n)), (1, .ref a1), (2, .ref a3)]) hx hb dX2_square_5 hl (by decide) rfl (fun ls hl => ?_)
  refine lv_iload_n hx hb dX2_square_7 rfl (lv_at hl 2 rfl) ?_
  refine lv_istore (lv' := [(5, .int (nI n)), (4, .int (nI (wn_q x n n))), (3, .int (nI (n + n))), (0, .int (nI n)), (1, .ref a1), (2, .ref a3)]) hx hb dX2_square_8 hl (by decide) rfl (fun ls hl => ?_)
  refine lv_iload_n hx hb dX2_square_10 rfl (lv_at hl 2 rfl) ?_
  refine lv_istore (lv' := [(6, .int (nI (n + n))), (5, .int (nI n)), (4, .int (nI (wn_q x n n))), (3, .int (nI (n + n))), (0, .int (nI n)), (1, .ref a1), (2, .ref a3)]) hx hb dX2_square_11 hl (by decide) rfl (fun ls hl => ?_)
  have body : ∀ (j : Nat) (H : Heap) (locs : List Loc) (ls : Array Slot), j + 1 ≤ n → va_P D vwCl (ws.set i3 (wr_i dI a3 n3 (wr_h (wn_h x n) z (n + n) ((j + 1) + (j + 1))))) H → va_D A (ws.set i3 (wr_i dI a3 n3 (wr_h (wn_h x n) z (n + n) ((j + 1) + (j + 1))))) → va_S A s.heap H locs → lv_has ls 11 [(5, .int (nI (j + 1))), (6, .int (nI ((j + 1) + (j + 1)))), (4, .int (nI (wn_q x n (j + 1)))), (3, .int (nI (n + n))), (0, .int (nI n)), (1, .ref a1), (2, .ref a3)] → (∀ (H : Heap) (locs : List Loc) (ls : Array Slot), va_P D vwCl (ws.set i3 (wr_i dI a3 n3 (wr_h (wn_h x n) z (n + n) (j + j)))) H → va_D A (ws.set i3 (wr_i dI a3 n3 (wr_h (wn_h x n) z (n + n) (j + j)))) → va_S A s.heap H locs → lv_has ls 11 [(4, .int (nI (wn_q x n j))), (6, .int (nI (j + j))), (5, .int (nI j)), (3, .int (nI (n + n))), (0, .int (nI n)), (1, .ref a1), (2, .ref a3)] → W p l e (headSpec (ws_ yX2_square cX2_square 11 none) wr_r1).room s m (([.int (nI n), .ref a1, .ref a3] : List Value).toArray) below meth c H locs 0 0 (MQ below (va_Qv (fun (u : Nat → Int32) => wn_v (wn_d u) (n + n) = wn_v (wn_d x) n * wn_v (wn_d x) n) (fun u t => wr_B D A (ws.set i3 (wr_i dI a3 n3 u)) t) A) (([.int (nI n), .ref a1, .ref a3] : List Value).toArray) s 0 0 A) (F0 m 72 ls [.int (nI j)])) → W p l e (headSpec (ws_ yX2_square cX2_square 11 none) wr_r1).room s m (([.int (nI n), .ref a1, .ref a3] : List Value).toArray) below meth c H locs 0 0 (MQ below (va_Qv (fun (u : Nat → Int32) => wn_v (wn_d u) (n + n) = wn_v (wn_d x) n * wn_v (wn_d x) n) (fun u t => wr_B D A (ws.set i3 (wr_i dI a3 n3 u)) t) A) (([.int (nI n), .ref a1, .ref a3] : List Value).toArray) s 0 0 A) (F0 m 13 ls []) := by
    intro j H locs ls hJ hP hD hS hl kk
    have e1 : (ws.set i3 (wr_i dI a3 n3 (wr_h (wn_h x n) z (n + n) ((j + 1) + (j + 1)))))[i1]? = some (wr_i dI a1 n1 x) := (wr_set_ne d1).trans h1
    have hp := wn_mul_le (wn_w_lt (x j)) (wn_w_lt (x j))
    have hq : wn_q x n j = wn_w (x j) * wn_w (x j) := if_pos (by omega)
    obtain ⟨P, hPp⟩ : ∃ P, P = wn_w (x j) * wn_w (x j) := ⟨_, rfl⟩
    rw [← hPp] at hp hq
    refine lv_aload_n hx hb dX2_square_13 rfl (lv_at hl 5 rfl) ?_
    refine lv_iinc (v := nI j) (lv' := [(5, .int (nI j)), (6, .int (nI ((j + 1) + (j + 1)))), (4, .int (nI (wn_q x n (j + 1)))), (3, .int (nI (n + n))), (0, .int (nI n)), (1, .ref a1), (2, .ref a3)]) hx hb dX2_square_14 hl (k := 0) rfl (wn_dec j) (by decide) rfl (fun ls hl => ?_)
    refine lv_iload hx hb dX2_square_17 (lv_at hl 0 rfl) ?_
    refine wr_iald hx hb hK hP e1 (by omega) (b1) dX2_square_19 ?_
    refine lv_i2l (v := (x j).toInt64) hx hb dX2_square_20 (rfl) ?_
    refine lv_ldc2 (v := 4294967295) hx hb hown (hts _ q14) dX2_square_21 ?_
    refine lv_land hx hb dX2_square_24 ?_
    refine wr_topl (lN (wn_w (x j))) (wn_i2l _) ?_
    refine lv_lstore (lv' := [(7, .long (lN (wn_w (x j)))), (5, .int (nI j)), (6, .int (nI ((j + 1) + (j + 1)))), (4, .int (nI (wn_q x n (j + 1)))), (3, .int (nI (n + n))), (0, .int (nI n)), (1, .ref a1), (2, .ref a3)]) hx hb dX2_square_25 hl (by decide) rfl (fun ls hl => ?_)
    refine lv_lload hx hb dX2_square_27 (lv_at hl 0 rfl) ?_
    refine lv_lload hx hb dX2_square_29 (lv_at hl 0 rfl) ?_
    refine lv_lmul hx hb dX2_square_31 ?_
    refine wr_topl (lN P) (by rw [hPp]; exact lN_mul _ _) ?_
    refine lv_lstore (lv' := [(9, .long (lN P)), (7, .long (lN (wn_w (x j)))), (5, .int (nI j)), (6, .int (nI ((j + 1) + (j + 1)))), (4, .int (nI (wn_q x n (j + 1)))), (3, .int (nI (n + n))), (0, .int (nI n)), (1, .ref a1), (2, .ref a3)]) hx hb dX2_square_32 hl (by decide) rfl (fun ls hl => ?_)
    refine lv_aload_n hx hb dX2_square_34 rfl (lv_at hl 8 rfl) ?_
    refine lv_iinc (v := nI (j + j + 1)) (lv' := [(6, .int (nI (j + j + 1))), (9, .long (lN P)), (7, .long (lN (wn_w (x j)))), (5, .int (nI j)), (4, .int (nI (wn_q x n (j + 1)))), (3, .int (nI (n + n))), (0, .int (nI n)), (1, .ref a1), (2, .ref a3)]) hx hb dX2_square_35 hl (k := 3) rfl (by rw [show (j + 1) + (j + 1) = j + j + 1 + 1 by omega]; exact wn_dec _) (by decide) rfl (fun ls hl => ?_)
    refine lv_iload hx hb dX2_square_38 (lv_at hl 0 rfl) ?_
    refine lv_iload hx hb dX2_square_40 (lv_at hl 4 rfl) ?_
    refine lv_bipush (v := 31) hx hb dX2_square_42 (by decide) ?_
    refine lv_ishl hx hb dX2_square_44 ?_
    refine lv_lload hx hb dX2_square_45 (lv_at hl 1 rfl) ?_
    refine lv_bipush (v := 33) hx hb dX2_square_47 (by decide) ?_
    refine lv_lushr (v := lN (P / 8589934592)) hx hb dX2_square_49 (wn_shr33 (by omega)) ?_
    refine lv_l2i (v := nI (P / 8589934592)) hx hb dX2_square_50 (lN_i _) ?_
    refine lv_ior hx hb dX2_square_51 ?_
    refine wr_topi (wn_h x n (j + j + 1)) (by rw [wn_h_o, hq]; rfl) ?_
    refine wr_iast hx hb hK hP hD hS (wr_set_at h3) (by omega) (b3) ((ws.set i3 (wr_i dI a3 n3 (wr_h (wn_h x n) z (n + n) (j + j + 1))))) (by rw [wr_set_set, show (j + 1) + (j + 1) = j + j + 1 + 1 by omega, wr_hu _ _ (by omega)]) dX2_square_52 (fun H locs hP hD hS => ?_)
    refine lv_aload_n hx hb dX2_square_53 rfl (lv_at hl 8 rfl) ?_
    refine lv_iinc (v := nI (j + j)) (lv' := [(6, .int (nI (j + j))), (9, .long (lN P)), (7, .long (lN (wn_w (x j)))), (5, .int (nI j)), (4, .int (nI (wn_q x n (j + 1)))), (3, .int (nI (n + n))), (0, .int (nI n)), (1, .ref a1), (2, .ref a3)]) hx hb dX2_square_54 hl (k := 0) rfl (wn_dec _) (by decide) rfl (fun ls hl => ?_)
    refine lv_iload hx hb dX2_square_57 (lv_at hl 0 rfl) ?_
    refine lv_lload hx hb dX2_square_59 (lv_at hl 1 rfl) ?_
    refine lv_iconst (v := 1) hx hb dX2_square_61 (by decide) ?_
    refine lv_lushr (v := lN (P / 2)) hx hb dX2_square_62 (wn_shr1 (by omega)) ?_
    refine lv_l2i (v := nI (P / 2)) hx hb dX2_square_63 (lN_i _) ?_
    refine wr_topi (wn_h x n (j + j)) (by rw [wn_h_e, hq]) ?_
    refine wr_iast hx hb hK hP hD hS (wr_set_at h3) (by omega) (b3) ((ws.set i3 (wr_i dI a3 n3 (wr_h (wn_h x n) z (n + n) (j + j))))) (by rw [wr_set_set, wr_hu _ _ (by omega)]) dX2_square_64 (fun H locs hP hD hS => ?_)
    refine lv_lload hx hb dX2_square_65 (lv_at hl 1 rfl) ?_
    refine lv_l2i (v := nI (wn_q x n j)) hx hb dX2_square_67 (by rw [hq]; exact lN_i _) ?_
    refine lv_istore (lv' := [(4, .int (nI (wn_q x n j))), (6, .int (nI (j + j))), (9, .long (lN P)), (7, .long (lN (wn_w (x j)))), (5, .int (nI j)), (3, .int (nI (n + n))), (0, .int (nI n)), (1, .ref a1), (2, .ref a3)]) hx hb dX2_square_68 hl (by decide) rfl (fun ls hl => ?_)
    refine lv_iload hx hb dX2_square_70 (lv_at hl 4 rfl) ?_
    exact kk H locs ls hP hD hS (lv_sub hl [0, 1, 4, 5, 6, 7, 8] rfl)
  have loop : (∀ (H : Heap) (locs : List Loc) (ls : Array Slot), va_P D vwCl (ws.set i3 (wr_i dI a3 n3 (wr_h (wn_h x n) z (n + n) (0 + 0)))) H → va_D A (ws.set i3 (wr_i dI a3 n3 (wr_h (wn_h x n) z (n + n) (0 + 0)))) → va_S A s.heap H locs → lv_has ls 11 [(3, .int (nI (n + n))), (0, .int (nI n)), (1, .ref a1), (2, .ref a3)] → W p l e (headSpec (ws_ yX2_square cX2_square 11 none) wr_r1).room s m (([.int (nI n), .ref a1, .ref a3] : List Value).toArray) below meth c H locs 0 0 (MQ below (va_Qv (fun (u : Nat → Int32) => wn_v (wn_d u) (n + n) = wn_v (wn_d x) n * wn_v (wn_d x) n) (fun u t => wr_B D A (ws.set i3 (wr_i dI a3 n3 u)) t) A) (([.int (nI n), .ref a1, .ref a3] : List Value).toArray) s 0 0 A) (F0 m 75 ls [])) → ∀ (J : Nat) (H : Heap) (locs : List Loc) (ls : Array Slot), J + 1 ≤ n → va_P D vwCl (ws.set i3 (wr_i dI a3 n3 (wr_h (wn_h x n) z (n + n) ((J + 1) + (J + 1))))) H → va_D A (ws.set i3 (wr_i dI a3 n3 (wr_h (wn_h x n) z (n + n) ((J + 1) + (J + 1))))) → va_S A s.heap H locs → lv_has ls 11 [(5, .int (nI (J + 1))), (6, .int (nI ((J + 1) + (J + 1)))), (4, .int (nI (wn_q x n (J + 1)))), (3, .int (nI (n + n))), (0, .int (nI n)), (1, .ref a1), (2, .ref a3)] → W p l e (headSpec (ws_ yX2_square cX2_square 11 none) wr_r1).room s m (([.int (nI n), .ref a1, .ref a3] : List Value).toArray) below meth c H locs 0 0 (MQ below (va_Qv (fun (u : Nat → Int32) => wn_v (wn_d u) (n + n) = wn_v (wn_d x) n * wn_v (wn_d x) n) (fun u t => wr_B D A (ws.set i3 (wr_i dI a3 n3 u)) t) A) (([.int (nI n), .ref a1, .ref a3] : List Value).toArray) s 0 0 A) (F0 m 13 ls []) := by
    intro kk J
    induction J with
    | zero =>
      intro H locs ls hJ hP hD hS hl
      refine body 0 H locs ls hJ hP hD hS hl ?_
      intro H locs ls hP hD hS hl
      refine lv_if_gt (tgt := 13) hx hb dX2_square_72 (by decide) (fun q_ => absurd q_ (by decide)) (fun _ => ?_)
      exact kk H locs ls hP hD hS (lv_sub hl [3, 4, 5, 6] rfl)
    | succ J0 ih =>
      intro H locs ls hJ hP hD hS hl
      refine body (J0 + 1) H locs ls hJ hP hD hS hl ?_
      intro H locs ls hP hD hS hl
      refine lv_if_gt (tgt := 13) hx hb dX2_square_72 (by decide) (fun _ => ?_) (fun q_ => absurd (nI_gt0 (show 0 < J0 + 1 by omega) (by omega)) q_)
      exact ih H locs ls (by omega) hP hD hS (lv_sub hl [2, 1, 0, 3, 4, 5, 6] rfl)
  have e0 : (ws.set i3 (wr_i dI a3 n3 (wr_h (wn_h x n) z (n + n) (n + n)))) = ws := by rw [wr_h0]; exact wr_set_self h3
  have hn1 : n - 1 + 1 = n := by omega
  refine loop ?_ (n - 1) s.heap [] ls (by omega) (by rw [hn1, e0]; exact hP) (by rw [hn1, e0]; exact hD) hS (by rw [hn1]; exact (lv_sub hl [1, 0, 2, 3, 4, 5, 6] rfl))
  clear loop body
  intro H locs ls hP hD hS hl
  refine lv_lconst (v := lN 0) hx hb dX2_square_75 (by decide) ?_
  refine lv_lstore (lv' := [(7, .long (lN 0)), (3, .int (nI (n + n))), (0, .int (nI n)), (1, .ref a1), (2, .ref a3)]) hx hb dX2_square_76 hl (by decide) rfl (fun ls hl => ?_)
  refine lv_iconst (v := nI (1 + 1)) hx hb dX2_square_78 (by decide) ?_
  refine lv_istore (lv' := [(9, .int (nI (1 + 1))), (7, .long (lN 0)), (3, .int (nI (n + n))), (0, .int (nI n)), (1, .ref a1), (2, .ref a3)]) hx hb dX2_square_79 hl (by decide) rfl (fun ls hl => ?_)
  refine lv_iconst (v := nI 1) hx hb dX2_square_81 (by decide) ?_
  refine lv_istore (lv' := [(10, .int (nI 1)), (9, .int (nI (1 + 1))), (7, .long (lN 0)), (3, .int (nI (n + n))), (0, .int (nI n)), (1, .ref a1), (2, .ref a3)]) hx hb dX2_square_82 hl (by decide) rfl (fun ls hl => ?_)
  obtain ⟨z0, hz0⟩ : ∃ z0, z0 = (wr_h (wn_h x n) z (n + n) (0 + 0)) := ⟨_, rfl⟩
  rw [← hz0] at hP hD
  have loop : ∀ (k i d : Nat) (Z : Nat → Int32) (H : Heap) (locs : List Loc) (ls : Array Slot), 1 ≤ i → i + k = n → d ≤ 1 → wn_v (wn_d Z) (i + i) + d * wn_p (i + i) = wn_v (wn_d z0) (i + i) + wn_X x i → (∀ j, i + i ≤ j → Z j = z0 j) → va_P D vwCl (ws.set i3 (wr_i dI a3 n3 Z)) H → va_D A (ws.set i3 (wr_i dI a3 n3 Z)) → va_S A s.heap H locs → lv_has ls 11 [(10, .int (nI i)), (9, .int (nI (i + i))), (7, .long (lN d)), (3, .int (nI (n + n))), (0, .int (nI n)), (1, .ref a1), (2, .ref a3)] → W p l e (headSpec (ws_ yX2_square cX2_square 11 none) wr_r1).room s m (([.int (nI n), .ref a1, .ref a3] : List Value).toArray) below meth c H locs 0 0 (MQ below (va_Qv (fun (u : Nat → Int32) => wn_v (wn_d u) (n + n) = wn_v (wn_d x) n * wn_v (wn_d x) n) (fun u t => wr_B D A (ws.set i3 (wr_i dI a3 n3 u)) t) A) (([.int (nI n), .ref a1, .ref a3] : List Value).toArray) s 0 0 A) (F0 m 84 ls []) := by
    intro k
    induction k with
    | zero =>
      intro i d Z H locs ls hi1 hik hd hV hZ hP hD hS hl
      have hin : i = n := by omega
      rw [hin] at hl hV
      have e1 : (ws.set i3 (wr_i dI a3 n3 Z))[i1]? = some (wr_i dI a1 n1 x) := (wr_set_ne d1).trans h1
      refine lv_iload hx hb dX2_square_84 (lv_at hl 0 rfl) ?_
      refine lv_iload_n hx hb dX2_square_86 rfl (lv_at hl 4 rfl) ?_
      refine lv_icmp_ge (tgt := 175) hx hb dX2_square_87 (by decide) (fun _ => ?_) (fun q_ => absurd (nI_le (Nat.le_refl n) (by omega)) q_)
      refine lv_iload_n hx hb dX2_square_175 rfl (lv_at hl 3 rfl) ?_
      refine lv_aload_n hx hb dX2_square_176 rfl (lv_at hl 6 rfl) ?_
      refine lv_aload_n hx hb dX2_square_177 rfl (lv_at hl 5 rfl) ?_
      refine lv_iconst (v := nI 0) hx hb dX2_square_178 (by decide) ?_
      refine wr_iald hx hb hK hP e1 (by omega) (b1) dX2_square_179 ?_
      refine lv_bipush (v := 31) hx hb dX2_square_180 (by decide) ?_
      refine lv_ishl hx hb dX2_square_182 ?_
      refine wr_topi (wn_su (x 0) 31) (rfl) ?_
      refine wr_calli0 hD hS hA (va_runS (As := [.int (nI (n + n)), .ref a3, .int (wn_su (x 0) 31)]) (rest := []) ⟨hx, hb, hml, hown, hts⟩ (m_shiftUpBit l D dI dF (ws.set i3 (wr_i dI a3 n3 Z)) H.size (n + n) i3 a3 n3 (wn_su (x 0) 31) Z (wr_set_at h3) l3 b3) (va_cwS 3 hts (lw_S q45 q46 q2 q47) rfl rfl rfl (by decide +kernel) ⟨Nat.le_of_ble_eq_true rfl, Nat.le_of_ble_eq_true rfl⟩) (wr_preS hP hK hD) rfl rfl hl.1 rfl (lv_room (Nat.le_of_ble_eq_true rfl)) dX2_square_183 ⟨Nat.le_of_ble_eq_true rfl, Nat.le_of_ble_eq_true rfl⟩) (fun r u H locs hp hP hD hS => ?_)
      rw [wr_set_set] at hP hD
      refine lv_pop hx hb dX2_square_186 rfl ?_
      have hz1 : wn_v (wn_d z0) (n + n) = wn_v (wn_d (wn_h x n)) (n + n) := wn_v_congr _ (fun j hj => by show wn_w (z0 j) = _; rw [hz0, wr_hz, wr_fl _ _ hj])
      rw [hz1] at hV
      exact wr_vret (wr_f (wn_1w (wn_su (x 0) 31) Z) Z (n + n)) hx hb hr hlocks hP hD hS (wn_sq_end x Z hn hV _ rfl) (Nat.zero_le _) (Nat.zero_le _) dX2_square_187
    | succ k ih =>
      intro i d Z H locs ls hi1 hik hd hV hZ hP hD hS hl
      have hi : i < n := by omega
      have e1 : (ws.set i3 (wr_i dI a3 n3 Z))[i1]? = some (wr_i dI a1 n1 x) := (wr_set_ne d1).trans h1
      have hcl : wn_c (wn_T (wn_w (x i)) x Z i) i < 4294967296 := wn_c_lt (wn_gT_le (wn_w_lt (x i)) x _) i
      have hz1 := wn_w_lt (z0 (i + i))
      have hz2 := wn_w_lt (z0 (i + i + 1))
      refine lv_iload hx hb dX2_square_84 (lv_at hl 0 rfl) ?_
      refine lv_iload_n hx hb dX2_square_86 rfl (lv_at hl 4 rfl) ?_
      refine lv_icmp_ge (tgt := 175) hx hb dX2_square_87 (by decide) (fun q_ => absurd q_ (nI_ge hi (by omega))) (fun _ => ?_)
      refine lv_lload hx hb dX2_square_90 (lv_at hl 2 rfl) ?_
      refine lv_aload_n hx hb dX2_square_92 rfl (lv_at hl 5 rfl) ?_
      refine lv_iload hx hb dX2_square_93 (lv_at hl 0 rfl) ?_
      refine lv_aload_n hx hb dX2_square_95 rfl (lv_at hl 6 rfl) ?_
      refine wr_calli0 hD hS hA (va_runS (As := [.ref a1, .int (nI i), .ref a3]) (rest := [.long (lN d)]) ⟨hx, hb, hml, hown, hts⟩ (m_squareWordAddTo l D dI dF (ws.set i3 (wr_i dI a3 n3 Z)) H.size i i1 i3 a1 a3 n1 n3 x Z e1 (wr_set_at h3) d1 hi1 (by omega) (by omega) b1 b3) (va_cwS 3 hts (lw_S q42 q43 q2 q44) rfl rfl rfl (by decide +kernel) ⟨Nat.le_of_ble_eq_true rfl, Nat.le_of_ble_eq_true rfl⟩) (wr_preS hP hK hD) rfl rfl hl.1 rfl (lv_room (Nat.le_of_ble_eq_true rfl)) dX2_square_96 ⟨Nat.le_of_ble_eq_true rfl, Nat.le_of_ble_eq_true rfl⟩) (fun r u H locs hp hP hD hS => ?_)
      subst hp
      rw [wr_set_set] at hP hD
      refine lv_i2l (v := (nI (wn_c (wn_T (wn_w (x i)) x Z i) i)).toInt64) hx hb dX2_square_99 (rfl) ?_
      refine lv_ldc2 (v := 4294967295) hx hb hown (hts _ q14) dX2_square_100 ?_
      refine lv_land hx hb dX2_square_103 ?_
      refine wr_topl (lN (wn_c (wn_T (wn_w (x i)) x Z i) i)) ((wn_i2l _).trans (by rw [wn_w_lt' hcl])) ?_
      refine lv_ladd hx hb dX2_square_104 ?_
      refine wr_topl (lN (d + (wn_c (wn_T (wn_w (x i)) x Z i) i))) (lN_add _ _) ?_
      refine lv_lstore (lv' := [(7, .long (lN (d + (wn_c (wn_T (wn_w (x i)) x Z i) i)))), (10, .int (nI i)), (9, .int (nI (i + i))), (3, .int (nI (n + n))), (0, .int (nI n)), (1, .ref a1), (2, .ref a3)]) hx hb dX2_square_105 hl (by decide) rfl (fun ls hl => ?_)
      refine lv_lload hx hb dX2_square_107 (lv_at hl 0 rfl) ?_
      refine lv_aload_n hx hb dX2_square_109 rfl (lv_at hl 6 rfl) ?_
      refine lv_iload hx hb dX2_square_110 (lv_at hl 2 rfl) ?_
      have v3 : (wr_g (wn_cw (wn_T (wn_w (x i)) x Z i)) Z i i) (i + i) = z0 (i + i) := (wr_go _ _ (Or.inr (Nat.le_refl _))).trans (hZ _ (Nat.le_refl _))
      refine wr_iald hx hb hK hP (wr_set_at h3) (by omega) (b3) dX2_square_112 ?_
      refine lv_i2l (v := ((wr_g (wn_cw (wn_T (wn_w (x i)) x Z i)) Z i i) (i + i)).toInt64) hx hb dX2_square_113 (rfl) ?_
      refine lv_ldc2 (v := 4294967295) hx hb hown (hts _ q14) dX2_square_114 ?_
      refine lv_land hx hb dX2_square_117 ?_
      refine wr_topl (lN (wn_w (z0 (i + i)))) (by rw [v3]; exact wn_i2l _) ?_
      obtain ⟨t1, ht1⟩ : ∃ t1, t1 = d + (wn_c (wn_T (wn_w (x i)) x Z i) i) + wn_w (z0 (i + i)) := ⟨_, rfl⟩
      refine lv_ladd hx hb dX2_square_118 ?_
      refine wr_topl (lN t1) (by rw [ht1]; exact lN_add _ _) ?_
      refine lv_lstore (lv' := [(7, .long (lN t1)), (10, .int (nI i)), (9, .int (nI (i + i))), (3, .int (nI (n + n))), (0, .int (nI n)), (1, .ref a1), (2, .ref a3)]) hx hb dX2_square_119 hl (by decide) rfl (fun ls hl => ?_)
      refine lv_aload_n hx hb dX2_square_121 rfl (lv_at hl 6 rfl) ?_
      refine lv_iload hx hb dX2_square_122 (lv_at hl 2 rfl) ?_
      refine lv_iinc (v := nI (i + i + 1)) (lv' := [(9, .int (nI (i + i + 1))), (7, .long (lN t1)), (10, .int (nI i)), (3, .int (nI (n + n))), (0, .int (nI n)), (1, .ref a1), (2, .ref a3)]) hx hb dX2_square_124 hl (k := 2) rfl (wn_inc _) (by decide) rfl (fun ls hl => ?_)
      refine lv_lload hx hb dX2_square_127 (lv_at hl 1 rfl) ?_
      refine lv_l2i (v := nI t1) hx hb dX2_square_129 (lN_i _) ?_
      refine wr_iast hx hb hK hP hD hS (wr_set_at h3) (by omega) (b3) ((ws.set i3 (wr_i dI a3 n3 (upd (wr_g (wn_cw (wn_T (wn_w (x i)) x Z i)) Z i i) (i + i) (nI t1))))) (wr_set_set) dX2_square_130 (fun H locs hP hD hS => ?_)
      refine lv_lload hx hb dX2_square_131 (lv_at hl 1 rfl) ?_
      refine lv_bipush (v := 32) hx hb dX2_square_133 (by decide) ?_
      refine lv_lushr (v := lN (t1 / 4294967296)) hx hb dX2_square_135 (wn_shr32 (by omega)) ?_
      refine lv_lstore (lv' := [(7, .long (lN (t1 / 4294967296))), (9, .int (nI (i + i + 1))), (10, .int (nI i)), (3, .int (nI (n + n))), (0, .int (nI n)), (1, .ref a1), (2, .ref a3)]) hx hb dX2_square_136 hl (by decide) rfl (fun ls hl => ?_)
      refine lv_lload hx hb dX2_square_138 (lv_at hl 0 rfl) ?_
      refine lv_aload_n hx hb dX2_square_140 rfl (lv_at hl 6 rfl) ?_
      refine lv_iload hx hb dX2_square_141 (lv_at hl 1 rfl) ?_
      have v4 : upd (wr_g (wn_cw (wn_T (wn_w (x i)) x Z i)) Z i i) (i + i) (nI t1) (i + i + 1) = z0 (i + i + 1) := (pk_un (by omega)).trans ((wr_go _ _ (Or.inr (by omega))).trans (hZ _ (by omega)))
      refine wr_iald hx hb hK hP (wr_set_at h3) (by omega) (b3) dX2_square_143 ?_
      refine lv_i2l (v := (upd (wr_g (wn_cw (wn_T (wn_w (x i)) x Z i)) Z i i) (i + i) (nI t1) (i + i + 1)).toInt64) hx hb dX2_square_144 (rfl) ?_
      refine lv_ldc2 (v := 4294967295) hx hb hown (hts _ q14) dX2_square_145 ?_
      refine lv_land hx hb dX2_square_148 ?_
      refine wr_topl (lN (wn_w (z0 (i + i + 1)))) (by rw [v4]; exact wn_i2l _) ?_
      obtain ⟨t2, ht2⟩ : ∃ t2, t2 = t1 / 4294967296 + wn_w (z0 (i + i + 1)) := ⟨_, rfl⟩
      refine lv_ladd hx hb dX2_square_149 ?_
      refine wr_topl (lN t2) (by rw [ht2]; exact lN_add _ _) ?_
      refine lv_lstore (lv' := [(7, .long (lN t2)), (9, .int (nI (i + i + 1))), (10, .int (nI i)), (3, .int (nI (n + n))), (0, .int (nI n)), (1, .ref a1), (2, .ref a3)]) hx hb dX2_square_150 hl (by decide) rfl (fun ls hl => ?_)
      refine lv_aload_n hx hb dX2_square_152 rfl (lv_at hl 6 rfl) ?_
      refine lv_iload hx hb dX2_square_153 (lv_at hl 1 rfl) ?_
      refine lv_iinc (v := nI (i + 1 + (i + 1))) (lv' := [(9, .int (nI (i + 1 + (i + 1)))), (7, .long (lN t2)), (10, .int (nI i)), (3, .int (nI (n + n))), (0, .int (nI n)), (1, .ref a1), (2, .ref a3)]) hx hb dX2_square_155 hl (k := 1) rfl (by rw [show i + 1 + (i + 1) = i + i + 1 + 1 by omega]; exact wn_inc _) (by decide) rfl (fun ls hl => ?_)
      refine lv_lload hx hb dX2_square_158 (lv_at hl 1 rfl) ?_
      refine lv_l2i (v := nI t2) hx hb dX2_square_160 (lN_i _) ?_
      refine wr_iast hx hb hK hP hD hS (wr_set_at h3) (by omega) (b3) ((ws.set i3 (wr_i dI a3 n3 (upd (upd (wr_g (wn_cw (wn_T (wn_w (x i)) x Z i)) Z i i) (i + i) (nI t1)) (i + i + 1) (nI t2))))) (wr_set_set) dX2_square_161 (fun H locs hP hD hS => ?_)
      refine lv_lload hx hb dX2_square_162 (lv_at hl 1 rfl) ?_
      refine lv_bipush (v := 32) hx hb dX2_square_164 (by decide) ?_
      refine lv_lushr (v := lN (t2 / 4294967296)) hx hb dX2_square_166 (wn_shr32 (by omega)) ?_
      refine lv_lstore (lv' := [(7, .long (lN (t2 / 4294967296))), (9, .int (nI (i + 1 + (i + 1)))), (10, .int (nI i)), (3, .int (nI (n + n))), (0, .int (nI n)), (1, .ref a1), (2, .ref a3)]) hx hb dX2_square_167 hl (by decide) rfl (fun ls hl => ?_)
      refine lv_iinc (v := nI (i + 1)) (lv' := [(10, .int (nI (i + 1))), (7, .long (lN (t2 / 4294967296))), (9, .int (nI (i + 1 + (i + 1)))), (3, .int (nI (n + n))), (0, .int (nI n)), (1, .ref a1), (2, .ref a3)]) hx hb dX2_square_169 hl (k := 2) rfl (wn_inc i) (by decide) rfl (fun ls hl => ?_)
      refine lv_goto (tgt := 84) hx hb dX2_square_172 (by decide) ?_
      have hst := wn_sq_step x z0 Z hi1 hV hZ t1 t2 ht1 ht2
      exact ih (i + 1) (t2 / 4294967296) (upd (upd (wr_g (wn_cw (wn_T (wn_w (x i)) x Z i)) Z i i) (i + i) (nI t1)) (i + i + 1) (nI t2)) H locs ls (by omega) (by omega) (by omega) (by rw [show i + 1 + (i + 1) = i + i + 1 + 1 by omega]; exact hst) (fun j hj => by rw [pk_un (by omega), pk_un (by omega), wr_go _ _ (by omega)]; exact hZ j (by omega)) hP hD hS (lv_sub hl [0, 2, 1, 3, 4, 5, 6] rfl)
  exact loop (n - 1) 1 0 z0 H locs ls (Nat.le_refl 1) (by omega) (Nat.zero_le 1) (by rw [wn_X1, Nat.zero_mul]) (fun _ _ => rfl) hP hD hS (lv_sub hl [0, 1, 2, 3, 4, 5, 6] rfl)
end
section
/-! WholeFile: an object and its six arrays, at places o .. o + 6 of the world -/
set_option maxRecDepth 100000
def wf_at (dI dF : ClassId) (ws : va_W) (o h n : Nat) (R : Nat → Nat → Int32) (w : Nat → Int32) : Prop :=
  ∃ (hf hw : Nat) (hr : Nat → Nat), ws[o]? = some (h, .inr (0, [.int (nI n), .ref hf, .ref hw])) ∧ ws[o + 1]? = some (wr_q dF hf 4 (fun k => some (hr k))) ∧ (∀ k, k < 4 → ws[o + 2 + k]? = some (wr_i dI (hr k) n (R k))) ∧ ws[o + 6]? = some (wr_i dI hw (n + n) w)
/-- u is ws but for the object at o -/
def wf_new (dI dF : ClassId) (ws u : va_W) (o h n : Nat) (R : Nat → Nat → Int32) (w : Nat → Int32) : Prop :=
  u.length = ws.length ∧ (∀ j, j < o ∨ o + 7 ≤ j → u[j]? = ws[j]?) ∧ wf_at dI dF u o h n R w
theorem wf_mono {dI dF : ClassId} {ws u : va_W} {o h n : Nat} {R : Nat → Nat → Int32} {w : Nat → Int32} (hw : wf_at dI dF ws o h n R w) (hu : ∀ j, o ≤ j → j < o + 7 → u[j]? = ws[j]?) : wf_at dI dF u o h n R w := by
  obtain ⟨hf, hv, hr, g0, g1, g2, g3⟩ := hw
  exact ⟨hf, hv, hr, (hu _ (by omega) (by omega)).trans g0, (hu _ (by omega) (by omega)).trans g1, fun k hk => (hu _ (by omega) (by omega)).trans (g2 k hk), (hu _ (by omega) (by omega)).trans g3⟩
theorem wf_keep {dI dF : ClassId} {ws u : va_W} {o h n o2 h2 n2 : Nat} {R R2 : Nat → Nat → Int32} {w w2 : Nat → Int32} (hn : wf_new dI dF ws u o h n R w) (ho : wf_at dI dF ws o2 h2 n2 R2 w2) (hd : o2 + 7 ≤ o ∨ o + 7 ≤ o2) : wf_at dI dF u o2 h2 n2 R2 w2 :=
  wf_mono ho (fun j h3 h4 => hn.2.1 j (by omega))
theorem wf_len {dI dF : ClassId} {ws : va_W} {o h n : Nat} {R : Nat → Nat → Int32} {w : Nat → Int32} (hw : wf_at dI dF ws o h n R w) : o + 7 ≤ ws.length := by
  obtain ⟨hf, hv, hr, g0, g1, g2, g3⟩ := hw
  have := (List.getElem?_eq_some_iff.mp g3).1
  omega
theorem wf_eqR {dI dF : ClassId} {ws : va_W} {o h n : Nat} {R R2 : Nat → Nat → Int32} {w w2 : Nat → Int32} (hw : wf_at dI dF ws o h n R w) (hR : ∀ k, k < 4 → R k = R2 k) (h2 : w = w2) : wf_at dI dF ws o h n R2 w2 := by
  obtain ⟨hf, hv, hr, g0, g1, g2, g3⟩ := hw
  subst h2
  exact ⟨hf, hv, hr, g0, g1, fun k hk => by rw [← hR k hk]; exact g2 k hk, g3⟩
theorem wf_setrow {dI dF : ClassId} {ws : va_W} {o h n hf hw : Nat} {hr : Nat → Nat} {R : Nat → Nat → Int32} {w : Nat → Int32} (g0 : ws[o]? = some (h, .inr (0, [.int (nI n), .ref hf, .ref hw]))) (g1 : ws[o + 1]? = some (wr_q dF hf 4 (fun k => some (hr k)))) (g2 : ∀ k, k < 4 → ws[o + 2 + k]? = some (wr_i dI (hr k) n (R k))) (g3 : ws[o + 6]? = some (wr_i dI hw (n + n) w)) {k : Nat} (hk : k < 4) (f : Nat → Int32) :
    wf_new dI dF ws (ws.set (o + 2 + k) (wr_i dI (hr k) n f)) o h n (va_up R k f) w := by
  refine ⟨List.length_set, fun j hj => wr_set_ne (by omega), hf, hw, hr, (wr_set_ne (by omega)).trans g0, (wr_set_ne (by omega)).trans g1, fun j hj => ?_, (wr_set_ne (by omega)).trans g3⟩
  by_cases e : j = k
  · subst e
    rw [wr_set_at (g2 j hj)]
    simp [va_up]
  · rw [wr_set_ne (by omega), g2 j hj]
    simp [va_up, e]
theorem wf_setwide {dI dF : ClassId} {ws : va_W} {o h n hf hw : Nat} {hr : Nat → Nat} {R : Nat → Nat → Int32} {w : Nat → Int32} (g0 : ws[o]? = some (h, .inr (0, [.int (nI n), .ref hf, .ref hw]))) (g1 : ws[o + 1]? = some (wr_q dF hf 4 (fun k => some (hr k)))) (g2 : ∀ k, k < 4 → ws[o + 2 + k]? = some (wr_i dI (hr k) n (R k))) (g3 : ws[o + 6]? = some (wr_i dI hw (n + n) w)) (f : Nat → Int32) :
    wf_new dI dF ws (ws.set (o + 6) (wr_i dI hw (n + n) f)) o h n R f :=
  ⟨List.length_set, fun j hj => wr_set_ne (by omega), hf, hw, hr, (wr_set_ne (by omega)).trans g0, (wr_set_ne (by omega)).trans g1, fun j hj => (wr_set_ne (by omega)).trans (g2 j hj), wr_set_at g3⟩
/-- a world out of places of another -/
theorem wf_selP {D : va_G} {V u : va_W} {H : Heap} (φ : Nat → Nat) (h : ∀ (j : Nat) (q : Nat × va_E), u[j]? = some q → V[φ j]? = some q) (hP : va_P D vwCl V H) : va_P D vwCl u H := fun k q hk => hP (φ k) q (h k q hk)
theorem wf_selD {A : Nat → Prop} {V u : va_W} (φ : Nat → Nat) (h : ∀ (j : Nat) (q : Nat × va_E), u[j]? = some q → V[φ j]? = some q) (hi : ∀ i j, i < u.length → j < u.length → φ i = φ j → i = j) (hD : va_D A V) : va_D A u :=
  ⟨fun i j p q h1 h2 e => hi i j (List.getElem?_eq_some_iff.mp h1).1 (List.getElem?_eq_some_iff.mp h2).1 (hD.1 _ _ p q (h i p h1) (h j q h2) e), fun k q hk => hD.2 _ q (h k q hk)⟩
/-- a new object's world -/
theorem wf_init_pos {α : Type} {ws four : List α} {o : Nat} (hl : o + 1 = ws.length) (h4 : four.length = 5) (c1 c2 c3 cw : α) :
    (((((ws.set o c1) ++ four).set o c2) ++ [cw]).set o c3).length = o + 7 ∧ (∀ j, j < o → (((((ws.set o c1) ++ four).set o c2) ++ [cw]).set o c3)[j]? = ws[j]?) ∧ (((((ws.set o c1) ++ four).set o c2) ++ [cw]).set o c3)[o]? = some c3 ∧ (∀ k, k < 5 → (((((ws.set o c1) ++ four).set o c2) ++ [cw]).set o c3)[o + 1 + k]? = four[k]?) ∧ (((((ws.set o c1) ++ four).set o c2) ++ [cw]).set o c3)[o + 6]? = some cw := by
  have l1 : (ws.set o c1).length = o + 1 := by rw [List.length_set]; omega
  have l2 : ((ws.set o c1) ++ four).length = o + 6 := by rw [List.length_append, l1, h4]
  have l3 : (((ws.set o c1) ++ four).set o c2).length = o + 6 := by rw [List.length_set]; exact l2
  have l4 : ((((ws.set o c1) ++ four).set o c2) ++ [cw]).length = o + 7 := by rw [List.length_append, l3]; rfl
  refine ⟨by rw [List.length_set]; exact l4, fun j hj => ?_, ?_, fun k hk => ?_, ?_⟩
  · rw [wr_set_ne (by omega), List.getElem?_append_left (by omega), wr_set_ne (by omega), List.getElem?_append_left (by omega), wr_set_ne (by omega)]
  · exact List.getElem?_set_self (by omega)
  · rw [wr_set_ne (by omega), List.getElem?_append_left (by omega), wr_set_ne (by omega), List.getElem?_append_right (by omega), l1]
    congr 1
    omega
  · rw [wr_set_ne (by omega), List.getElem?_append_right (by omega), l3, Nat.sub_self]
    rfl
theorem wf_init_at {dI dF : ClassId} {ws : va_W} {o h q1 q2 n : Nat} (hl : o + 1 = ws.length) (c1 c2 : Nat × va_E) :
    wf_at dI dF (((((ws.set o c1) ++ wr_four dI dF q1 n).set o c2) ++ [wr_i dI q2 (n + n) (fun _ => 0)]).set o (h, .inr (0, [.int (nI n), .ref q1, .ref q2]))) o h n (fun _ _ => 0) (fun _ => 0) := by
  obtain ⟨-, -, p1, p2, p3⟩ := wf_init_pos (four := wr_four dI dF q1 n) hl rfl c1 c2 (h, .inr (0, [.int (nI n), .ref q1, .ref q2])) (wr_i dI q2 (n + n) (fun _ => 0))
  refine ⟨q1, q2, fun k => q1 + 1 + k, p1, p2 0 (by decide), fun k hk => ?_, p3⟩
  have h1 := p2 (k + 1) (by omega)
  rw [show o + 1 + (k + 1) = o + 2 + k by omega] at h1
  rw [h1]
  match k, hk with
  | 0, _ => rfl
  | 1, _ => rfl
  | 2, _ => rfl
  | 3, _ => rfl
/-- the arrays of the object at o anew: the old ones are forgotten -/
def wf_pack {α : Type} (ws : List α) (o : Nat) (c3 f0 f1 f2 f3 f4 cw : α) : List α := ((((((ws.set o c3).set (o + 1) f0).set (o + 2) f1).set (o + 3) f2).set (o + 4) f3).set (o + 5) f4).set (o + 6) cw
def wf_phi (o N : Nat) (j : Nat) : Nat := if o < j ∧ j < o + 7 then N + (j - (o + 1)) else j
theorem wf_pack_at {α : Type} {ws : List α} {o : Nat} (hl : o + 7 ≤ ws.length) (c1 c2 c3 f0 f1 f2 f3 f4 cw : α) (j : Nat) :
    (wf_pack ws o c3 f0 f1 f2 f3 f4 cw)[j]? = if j < ws.length then (((((ws.set o c1) ++ [f0, f1, f2, f3, f4]).set o c2) ++ [cw]).set o c3)[wf_phi o ws.length j]? else none := by
  have l1 : (ws.set o c1).length = ws.length := List.length_set
  have l3 : (((ws.set o c1) ++ [f0, f1, f2, f3, f4]).set o c2).length = ws.length + 5 := by rw [List.length_set, List.length_append, l1]; rfl
  unfold wf_pack wf_phi
  by_cases hj : j < ws.length
  · rw [if_pos hj]
    by_cases h0 : o < j ∧ j < o + 7
    · rw [if_pos h0]
      obtain ⟨k, hk⟩ : ∃ k, j = o + 1 + k := ⟨j - (o + 1), by omega⟩
      subst hk
      rw [show o + 1 + k - (o + 1) = k by omega]
      have hk6 : k < 6 := by omega
      have hv : (((((ws.set o c1) ++ [f0, f1, f2, f3, f4]).set o c2) ++ [cw]).set o c3)[ws.length + k]? = [f0, f1, f2, f3, f4, cw][k]? := by
        rw [wr_set_ne (by omega)]
        by_cases h5 : k < 5
        · rw [List.getElem?_append_left (by rw [l3]; omega), wr_set_ne (by omega), List.getElem?_append_right (by rw [l1]; omega), l1, show ws.length + k - ws.length = k by omega]
          match k, h5 with
          | 0, _ => rfl
          | 1, _ => rfl
          | 2, _ => rfl
          | 3, _ => rfl
          | 4, _ => rfl
        · rw [List.getElem?_append_right (by rw [l3]; omega), l3, show ws.length + k - (ws.length + 5) = 0 by omega, show k = 5 by omega]
          rfl
      rw [hv]
      match k, hk6 with
      | 0, _ =>
        rw [wr_set_ne (by omega), wr_set_ne (by omega), wr_set_ne (by omega), wr_set_ne (by omega), wr_set_ne (by omega)]
        exact List.getElem?_set_self (by simp only [List.length_set]; omega)
      | 1, _ =>
        rw [wr_set_ne (by omega), wr_set_ne (by omega), wr_set_ne (by omega), wr_set_ne (by omega)]
        exact List.getElem?_set_self (by simp only [List.length_set]; omega)
      | 2, _ =>
        rw [wr_set_ne (by omega), wr_set_ne (by omega), wr_set_ne (by omega)]
        exact List.getElem?_set_self (by simp only [List.length_set]; omega)
      | 3, _ =>
        rw [wr_set_ne (by omega), wr_set_ne (by omega)]
        exact List.getElem?_set_self (by simp only [List.length_set]; omega)
      | 4, _ =>
        rw [wr_set_ne (by omega)]
        exact List.getElem?_set_self (by simp only [List.length_set]; omega)
      | 5, _ => exact List.getElem?_set_self (by simp only [List.length_set]; omega)
    · rw [if_neg h0, wr_set_ne (by omega), wr_set_ne (by omega), wr_set_ne (by omega), wr_set_ne (by omega), wr_set_ne (by omega), wr_set_ne (by omega)]
      by_cases e : j = o
      · subst e
        rw [List.getElem?_set_self hj, List.getElem?_set_self (by rw [List.length_append, l3]; omega)]
      · rw [wr_set_ne e, wr_set_ne (ws := _ ++ _) e, List.getElem?_append_left (by omega), wr_set_ne (ws := _ ++ _) e, List.getElem?_append_left (by omega), wr_set_ne e]
  · rw [if_neg hj]
    exact List.getElem?_eq_none (by simp only [List.length_set]; omega)
theorem wf_pack_len {α : Type} (ws : List α) (o : Nat) (c3 f0 f1 f2 f3 f4 cw : α) : (wf_pack ws o c3 f0 f1 f2 f3 f4 cw).length = ws.length := by
  unfold wf_pack
  simp only [List.length_set]
theorem wf_packP {D : va_G} {A : Nat → Prop} {ws : va_W} {o : Nat} {H : Heap} (hl : o + 7 ≤ ws.length) {c1 c2 c3 f0 f1 f2 f3 f4 cw : Nat × va_E} (hP : va_P D vwCl (((((ws.set o c1) ++ [f0, f1, f2, f3, f4]).set o c2) ++ [cw]).set o c3) H) (hD : va_D A (((((ws.set o c1) ++ [f0, f1, f2, f3, f4]).set o c2) ++ [cw]).set o c3)) :
    va_P D vwCl (wf_pack ws o c3 f0 f1 f2 f3 f4 cw) H ∧ va_D A (wf_pack ws o c3 f0 f1 f2 f3 f4 cw) := by
  have h : ∀ (j : Nat) (q : Nat × va_E), (wf_pack ws o c3 f0 f1 f2 f3 f4 cw)[j]? = some q → (((((ws.set o c1) ++ [f0, f1, f2, f3, f4]).set o c2) ++ [cw]).set o c3)[wf_phi o ws.length j]? = some q := by
    intro j q hj
    rw [wf_pack_at hl c1 c2] at hj
    split at hj
    · exact hj
    · cases hj
  refine ⟨wf_selP _ h hP, wf_selD _ h (fun i j hi hj e => ?_) hD⟩
  rw [wf_pack_len] at hi hj
  unfold wf_phi at e
  split at e <;> split at e <;> omega
theorem wf_pack_new {dI dF : ClassId} {ws : va_W} {o h n q1 q2 : Nat} (hl : o + 7 ≤ ws.length) :
    wf_new dI dF ws (wf_pack ws o (h, .inr (0, [.int (nI n), .ref q1, .ref q2])) (wr_q dF q1 4 (fun i => some (q1 + 1 + i))) (wr_i dI (q1 + 1) n (fun _ => 0)) (wr_i dI (q1 + 2) n (fun _ => 0)) (wr_i dI (q1 + 3) n (fun _ => 0)) (wr_i dI (q1 + 4) n (fun _ => 0)) (wr_i dI q2 (n + n) (fun _ => 0))) o h n (fun _ _ => 0) (fun _ => 0) := by
  refine ⟨wf_pack_len _ _ _ _ _ _ _ _ _, fun j hj => ?_, q1, q2, fun k => q1 + 1 + k, ?_, ?_, fun k hk => ?_, ?_⟩
  · unfold wf_pack
    rw [wr_set_ne (by omega), wr_set_ne (by omega), wr_set_ne (by omega), wr_set_ne (by omega), wr_set_ne (by omega), wr_set_ne (by omega), wr_set_ne (by omega)]
  · unfold wf_pack
    rw [wr_set_ne (by omega), wr_set_ne (by omega), wr_set_ne (by omega), wr_set_ne (by omega), wr_set_ne (by omega), wr_set_ne (by omega)]
    exact List.getElem?_set_self (by omega)
  · unfold wf_pack
    rw [wr_set_ne (by omega), wr_set_ne (by omega), wr_set_ne (by omega), wr_set_ne (by omega), wr_set_ne (by omega)]
    exact List.getElem?_set_self (by simp only [List.length_set]; omega)
  · unfold wf_pack
    match k, hk with
    | 0, _ =>
      rw [wr_set_ne (by omega), wr_set_ne (by omega), wr_set_ne (by omega), wr_set_ne (by omega)]
      exact List.getElem?_set_self (by simp only [List.length_set]; omega)
    | 1, _ =>
      rw [wr_set_ne (by omega), wr_set_ne (by omega), wr_set_ne (by omega)]
      exact List.getElem?_set_self (by simp only [List.length_set]; omega)
    | 2, _ =>
      rw [wr_set_ne (by omega), wr_set_ne (by omega)]
      exact List.getElem?_set_self (by simp only [List.length_set]; omega)
    | 3, _ =>
      rw [wr_set_ne (by omega)]
      exact List.getElem?_set_self (by simp only [List.length_set]; omega)
  · unfold wf_pack
    exact List.getElem?_set_self (by simp only [List.length_set]; omega)
/-- one row of the object anew -/
theorem wf_rowP {D : va_G} {A : Nat → Prop} {ws : va_W} {o k : Nat} {H : Heap} (hl : o + 2 + k < ws.length) {c0 c1 cz : Nat × va_E} (hP : va_P D vwCl (((ws ++ [c0]).set ws.length cz).set (o + 1) c1) H) (hD : va_D A (((ws ++ [c0]).set ws.length cz).set (o + 1) c1)) :
    va_P D vwCl ((ws.set (o + 1) c1).set (o + 2 + k) cz) H ∧ va_D A ((ws.set (o + 1) c1).set (o + 2 + k) cz) := by
  have h : ∀ (j : Nat) (q : Nat × va_E), ((ws.set (o + 1) c1).set (o + 2 + k) cz)[j]? = some q → (((ws ++ [c0]).set ws.length cz).set (o + 1) c1)[if j = o + 2 + k then ws.length else j]? = some q := by
    intro j q hj
    have hjl : j < ws.length := by
      have := (List.getElem?_eq_some_iff.mp hj).1
      simpa using this
    by_cases e : j = o + 2 + k
    · rw [if_pos e, wr_set_ne (by omega), List.getElem?_set_self (by simp)]
      rw [e, List.getElem?_set_self (by rw [List.length_set]; exact hl)] at hj
      exact hj
    · rw [if_neg e]
      rw [wr_set_ne e] at hj
      by_cases e2 : j = o + 1
      · subst e2
        rw [List.getElem?_set_self (by simp; omega)]
        rw [List.getElem?_set_self (by omega)] at hj
        exact hj
      · rw [wr_set_ne e2] at hj
        rw [wr_set_ne e2, wr_set_ne (by omega), List.getElem?_append_left hjl]
        exact hj
  refine ⟨wf_selP _ h hP, wf_selD _ h (fun i j hi hj e => ?_) hD⟩
  simp only [List.length_set] at hi hj
  try dsimp only at e
  split at e <;> split at e <;> omega
theorem wf_row_new {dI dF : ClassId} {ws : va_W} {o h n hf hw q : Nat} {hr : Nat → Nat} {R : Nat → Nat → Int32} {w : Nat → Int32} (g0 : ws[o]? = some (h, .inr (0, [.int (nI n), .ref hf, .ref hw]))) (g1 : ws[o + 1]? = some (wr_q dF hf 4 (fun k => some (hr k)))) (g2 : ∀ k, k < 4 → ws[o + 2 + k]? = some (wr_i dI (hr k) n (R k))) (g3 : ws[o + 6]? = some (wr_i dI hw (n + n) w)) {k : Nat} (hk : k < 4) (f : Nat → Int32) :
    wf_new dI dF ws ((ws.set (o + 1) (wr_q dF hf 4 (va_up (fun k => some (hr k)) k (some q)))).set (o + 2 + k) (wr_i dI q n f)) o h n (va_up R k f) w := by
  refine ⟨by simp only [List.length_set], fun j hj => by rw [wr_set_ne (by omega), wr_set_ne (by omega)], hf, hw, fun j => if j = k then q else hr j, ?_, ?_, fun j hj => ?_, ?_⟩
  · rw [wr_set_ne (by omega), wr_set_ne (by omega)]; exact g0
  · rw [wr_set_ne (by omega), wr_set_at g1]
    congr 4
    funext j
    by_cases e : j = k <;> simp [va_up, e]
  · by_cases e : j = k
    · subst e
      rw [wr_set_at ((wr_set_ne (by omega)).trans (g2 j hj))]
      simp [va_up]
    · rw [wr_set_ne (by omega), wr_set_ne (by omega), g2 j hj]
      simp [va_up, e]
  · rw [wr_set_ne (by omega), wr_set_ne (by omega)]; exact g3
/-- the count of a shift -/
def wf_k (bits : Int32) : Nat := 1 + wn_w bits % 2147483648 % 31
theorem wf_k_in (bits : Int32) : 1 ≤ wf_k bits ∧ wf_k bits ≤ 31 := by unfold wf_k; omega
theorem wf_and31 (x : Int32) : x &&& 2147483647 = nI (wn_w x % 2147483648) := pk_and x 31 (by decide)
theorem wf_rem31 (x : Int32) : nI (wn_w x % 2147483648) - nI (wn_w x % 2147483648) / 31 * 31 = nI (wn_w x % 2147483648 % 31) := pk_rem (d := 31) (by omega) (by decide) (by decide)
theorem wf_and15 (x : Int32) : x &&& 15 = nI (wn_w x % 16) := pk_and x 4 (by decide)
abbrev wf_i (c s : Nat) : Room := { frames := 2, cells := c, slots := s, locals := 80 }
end
section
/-! WholeFile: its methods -/
theorem wf_nb {a b : Nat} {r : Int32} (h : (a ≤ b → r = 1) ∧ (¬ a ≤ b → r = 0)) : narrow .boolean (.int r) = .int r := by
  by_cases q : a ≤ b
  · rw [h.1 q]; rfl
  · rw [h.2 q]; rfl
set_option maxHeartbeats 4000000 in
set_option maxRecDepth 100000 in
/-- WholeFile.word -/
theorem f_word (l : Launch) (D : va_G) (dI dF : ClassId) (ws : va_W) (sz : Nat) (o h n : Nat) (R : Nat → Nat → Int32) (w : Nat → Int32) (hwf : wf_at dI dF ws o h n R w) (hn1 : 1 ≤ n) (hn2 : n ≤ 16) (r : Int32) (k : Nat) (hk : k < 4) (ek : r &&& 3 = nI k) (at_ : Int32) (q : Nat) (hq : q < 16) (eq : at_ &&& 15 = nI q) : Met l yX1_word (ws_ yX1_word cX1_word 3 (some .int)) wr_r2 (wr_Pc D dI dF [.ref h, .int r, .int at_] ws sz) (va_Qi (fun (r : Int32) (_ : Unit) => r = R k (q % n)) (fun _ t => wr_B D (va_A ws sz) ws t) (va_A ws sz)) 0 0 (va_A ws sz) := by
  refine Met.ofW (cc := cX1_word) (maxL := 3) (ret := (some .int)) (by decide) rfl ?_
  intro p e s m args below meth c s₁ B hml hv
  obtain ⟨rfl, hsz, hP, hK, hD0⟩ := hv
  have hx := B.exec
  have hb := B.bytes
  have hr_ := B.returns
  have hts := atoms_spec (ws := ws_ yX1_word cX1_word 3 (some .int)) B.pre
  have hts : ∀ w ∈ lw_all, w.before _ s = true := fun w h => hts w (List.mem_cons_of_mem _ h)
  have hown : s.vm.findClass RX1 = some m.cls := findClass_of_methodNamed B.named
  have hlocks := B.notSynchronized
  subst hsz
  have hD := hD0.self (sz := s.heap.size)
  generalize hAe : va_A ws s.heap.size = A at hD ⊢
  have hA : ∀ q : Nat, s.heap.size ≤ q → A q := fun q h => by rw [← hAe]; exact Or.inr h
  have hS : va_S A s.heap s.heap [] := va_S.rf
  have hl := lv_entry ([.ref h, .int r, .int at_]) (n := 3) (Nat.le_of_ble_eq_true rfl)
  rw [lg_entry_eq]
  generalize (lg_sl ([.ref h, .int r, .int at_]) ++ List.replicate (3 - (lg_sl ([.ref h, .int r, .int at_])).length) Slot.unset).toArray = ls at hl ⊢
  have hl : lv_has ls 3 [(0, .ref h), (1, .int r), (2, .int at_)] := hl
  obtain ⟨hf, hw, hr, g0, g1, g2, g3⟩ := hwf
  have hB : n < 2 ^ 31 := by omega
  refine lv_aload_n hx hb dX1_word_0 rfl (lv_at hl 0 rfl) ?_
  refine va_get (D := D) (ci := 0) (v := .ref hf) (C := RX1) (T := TX1) (N := 3) hx hb hts in_X1 hown hK.1 hP _ g0 rfl 1 (by decide) (hts _ q113) (fun _ h9 => h9) rfl dX1_word_1 ?_
  refine lv_iload_n hx hb dX1_word_4 rfl (lv_at hl 1 rfl) ?_
  refine lv_iconst (v := 3) hx hb dX1_word_5 (by decide) ?_
  refine lv_iand hx hb dX1_word_6 ?_
  refine wr_topi (nI k) (ek) ?_
  refine wr_aald hx hb hK hP g1 hk (by decide) rfl dX1_word_7 ?_
  refine lv_iload_n hx hb dX1_word_8 rfl (lv_at hl 2 rfl) ?_
  refine lv_bipush (v := 15) hx hb dX1_word_9 (by decide) ?_
  refine lv_iand hx hb dX1_word_11 ?_
  refine wr_topi (nI q) (eq) ?_
  refine lv_aload_n hx hb dX1_word_12 rfl (lv_at hl 0 rfl) ?_
  refine va_get (D := D) (ci := 0) (v := .int (nI n)) (C := RX1) (T := TX1) (N := 3) hx hb hts in_X1 hown hK.1 hP _ g0 rfl 0 (by decide) (hts _ q112) (fun _ h9 => h9) rfl dX1_word_13 ?_
  refine lv_irem hx hb dX1_word_16 (nI_ne0 (by omega) hB) ?_
  refine wr_topi (nI (q % n)) (pk_rem (by omega) (by omega) hB) ?_
  refine wr_iald hx hb hK hP (g2 k hk) (Nat.mod_lt _ (by omega)) (hB) dX1_word_17 ?_
  exact wr_iret () hx hb hr_ hlocks hP hD hS (rfl) (Nat.zero_le _) (Nat.zero_le _) dX1_word_18

set_option maxHeartbeats 4000000 in
set_option maxRecDepth 100000 in
/-- WholeFile.wide -/
theorem f_wide (l : Launch) (D : va_G) (dI dF : ClassId) (ws : va_W) (sz : Nat) (o h n : Nat) (R : Nat → Nat → Int32) (w : Nat → Int32) (hwf : wf_at dI dF ws o h n R w) (hn1 : 1 ≤ n) (hn2 : n ≤ 16) (at_ : Int32) (q : Nat) (hq : q < 32) (eq : at_ &&& 31 = nI q) : Met l yX1_wide (ws_ yX1_wide cX1_wide 2 (some .int)) wr_r2 (wr_Pc D dI dF [.ref h, .int at_] ws sz) (va_Qi (fun (r : Int32) (_ : Unit) => r = w (q % (n + n))) (fun _ t => wr_B D (va_A ws sz) ws t) (va_A ws sz)) 0 0 (va_A ws sz) := by
  refine Met.ofW (cc := cX1_wide) (maxL := 2) (ret := (some .int)) (by decide) rfl ?_
  intro p e s m args below meth c s₁ B hml hv
  obtain ⟨rfl, hsz, hP, hK, hD0⟩ := hv
  have hx := B.exec
  have hb := B.bytes
  have hr_ := B.returns
  have hts := atoms_spec (ws := ws_ yX1_wide cX1_wide 2 (some .int)) B.pre
  have hts : ∀ w ∈ lw_all, w.before _ s = true := fun w h => hts w (List.mem_cons_of_mem _ h)
  have hown : s.vm.findClass RX1 = some m.cls := findClass_of_methodNamed B.named
  have hlocks := B.notSynchronized
  subst hsz
  have hD := hD0.self (sz := s.heap.size)
  generalize hAe : va_A ws s.heap.size = A at hD ⊢
  have hA : ∀ q : Nat, s.heap.size ≤ q → A q := fun q h => by rw [← hAe]; exact Or.inr h
  have hS : va_S A s.heap s.heap [] := va_S.rf
  have hl := lv_entry ([.ref h, .int at_]) (n := 2) (Nat.le_of_ble_eq_true rfl)
  rw [lg_entry_eq]
  generalize (lg_sl ([.ref h, .int at_]) ++ List.replicate (2 - (lg_sl ([.ref h, .int at_])).length) Slot.unset).toArray = ls at hl ⊢
  have hl : lv_has ls 2 [(0, .ref h), (1, .int at_)] := hl
  obtain ⟨hf, hw, hr, g0, g1, g2, g3⟩ := hwf
  have hB : n < 2 ^ 31 := by omega
  refine lv_aload_n hx hb dX1_wide_0 rfl (lv_at hl 0 rfl) ?_
  refine va_get (D := D) (ci := 0) (v := .ref hw) (C := RX1) (T := TX1) (N := 3) hx hb hts in_X1 hown hK.1 hP _ g0 rfl 2 (by decide) (hts _ q114) (fun _ h9 => h9) rfl dX1_wide_1 ?_
  refine lv_iload_n hx hb dX1_wide_4 rfl (lv_at hl 1 rfl) ?_
  refine lv_bipush (v := 31) hx hb dX1_wide_5 (by decide) ?_
  refine lv_iand hx hb dX1_wide_7 ?_
  refine wr_topi (nI q) (eq) ?_
  refine lv_iconst (v := nI 2) hx hb dX1_wide_8 (by decide) ?_
  refine lv_aload_n hx hb dX1_wide_9 rfl (lv_at hl 0 rfl) ?_
  refine va_get (D := D) (ci := 0) (v := .int (nI n)) (C := RX1) (T := TX1) (N := 3) hx hb hts in_X1 hown hK.1 hP _ g0 rfl 0 (by decide) (hts _ q112) (fun _ h9 => h9) rfl dX1_wide_10 ?_
  refine lv_imul hx hb dX1_wide_13 ?_
  refine wr_topi (nI (n + n)) (by rw [pk_mul, show 2 * n = n + n by omega]) ?_
  refine lv_irem hx hb dX1_wide_14 (nI_ne0 (by omega) (by omega)) ?_
  refine wr_topi (nI (q % (n + n))) (pk_rem (by omega) (by omega) (by omega)) ?_
  refine wr_iald hx hb hK hP g3 (Nat.mod_lt _ (by omega)) (by omega) dX1_wide_15 ?_
  exact wr_iret () hx hb hr_ hlocks hP hD hS (rfl) (Nat.zero_le _) (Nat.zero_le _) dX1_wide_16

set_option maxHeartbeats 4000000 in
set_option maxRecDepth 100000 in
/-- WholeFile.add -/
theorem f_add (l : Launch) (D : va_G) (dI dF : ClassId) (ws : va_W) (sz : Nat) (o h n : Nat) (R : Nat → Nat → Int32) (w : Nat → Int32) (hwf : wf_at dI dF ws o h n R w) (hn1 : 1 ≤ n) (hn2 : n ≤ 16) (r : Int32) (kr : Nat) (hkr : kr < 4) (ekr : r &&& 3 = nI kr) (p_ : Int32) (kp : Nat) (hkp : kp < 4) (ekp : p_ &&& 3 = nI kp) (q_ : Int32) (kq : Nat) (hkq : kq < 4) (ekq : q_ &&& 3 = nI kq) : Met l yX1_add (ws_ yX1_add cX1_add 4 (some .int)) wr_r2 (wr_Pc D dI dF [.ref h, .int r, .int p_, .int q_] ws sz) (va_Qi (fun (r : Int32) (u : va_W) => r = nI (wn_c (wn_gA (R kp) (R kq)) n) ∧ wf_new dI dF ws u o h n (va_up R kr (wr_f (wn_cw (wn_gA (R kp) (R kq))) (R kr) n)) w) (fun u t => wr_B D (va_A ws sz) u t) (va_A ws sz)) 0 0 (va_A ws sz) := by
  refine Met.ofW (cc := cX1_add) (maxL := 4) (ret := (some .int)) (by decide) rfl ?_
  intro p e s m args below meth c s₁ B hml hv
  obtain ⟨rfl, hsz, hP, hK, hD0⟩ := hv
  have hx := B.exec
  have hb := B.bytes
  have hr_ := B.returns
  have hts := atoms_spec (ws := ws_ yX1_add cX1_add 4 (some .int)) B.pre
  have hts : ∀ w ∈ lw_all, w.before _ s = true := fun w h => hts w (List.mem_cons_of_mem _ h)
  have hown : s.vm.findClass RX1 = some m.cls := findClass_of_methodNamed B.named
  have hlocks := B.notSynchronized
  subst hsz
  have hD := hD0.self (sz := s.heap.size)
  generalize hAe : va_A ws s.heap.size = A at hD ⊢
  have hA : ∀ q : Nat, s.heap.size ≤ q → A q := fun q h => by rw [← hAe]; exact Or.inr h
  have hS : va_S A s.heap s.heap [] := va_S.rf
  have hl := lv_entry ([.ref h, .int r, .int p_, .int q_]) (n := 4) (Nat.le_of_ble_eq_true rfl)
  rw [lg_entry_eq]
  generalize (lg_sl ([.ref h, .int r, .int p_, .int q_]) ++ List.replicate (4 - (lg_sl ([.ref h, .int r, .int p_, .int q_])).length) Slot.unset).toArray = ls at hl ⊢
  have hl : lv_has ls 4 [(0, .ref h), (1, .int r), (2, .int p_), (3, .int q_)] := hl
  obtain ⟨hf, hw, hr, g0, g1, g2, g3⟩ := hwf
  have hB : n < 2 ^ 31 := by omega
  refine lv_aload_n hx hb dX1_add_0 rfl (lv_at hl 0 rfl) ?_
  refine va_get (D := D) (ci := 0) (v := .int (nI n)) (C := RX1) (T := TX1) (N := 3) hx hb hts in_X1 hown hK.1 hP _ g0 rfl 0 (by decide) (hts _ q112) (fun _ h9 => h9) rfl dX1_add_1 ?_
  refine lv_aload_n hx hb dX1_add_4 rfl (lv_at hl 0 rfl) ?_
  refine va_get (D := D) (ci := 0) (v := .ref hf) (C := RX1) (T := TX1) (N := 3) hx hb hts in_X1 hown hK.1 hP _ g0 rfl 1 (by decide) (hts _ q113) (fun _ h9 => h9) rfl dX1_add_5 ?_
  refine lv_iload_n hx hb dX1_add_8 rfl (lv_at hl 2 rfl) ?_
  refine lv_iconst (v := 3) hx hb dX1_add_9 (by decide) ?_
  refine lv_iand hx hb dX1_add_10 ?_
  refine wr_topi (nI kp) (ekp) ?_
  refine wr_aald hx hb hK hP g1 hkp (by decide) rfl dX1_add_11 ?_
  refine lv_aload_n hx hb dX1_add_12 rfl (lv_at hl 0 rfl) ?_
  refine va_get (D := D) (ci := 0) (v := .ref hf) (C := RX1) (T := TX1) (N := 3) hx hb hts in_X1 hown hK.1 hP _ g0 rfl 1 (by decide) (hts _ q113) (fun _ h9 => h9) rfl dX1_add_13 ?_
  refine lv_iload_n hx hb dX1_add_16 rfl (lv_at hl 3 rfl) ?_
  refine lv_iconst (v := 3) hx hb dX1_add_17 (by decide) ?_
  refine lv_iand hx hb dX1_add_18 ?_
  refine wr_topi (nI kq) (ekq) ?_
  refine wr_aald hx hb hK hP g1 hkq (by decide) rfl dX1_add_19 ?_
  refine lv_aload_n hx hb dX1_add_20 rfl (lv_at hl 0 rfl) ?_
  refine va_get (D := D) (ci := 0) (v := .ref hf) (C := RX1) (T := TX1) (N := 3) hx hb hts in_X1 hown hK.1 hP _ g0 rfl 1 (by decide) (hts _ q113) (fun _ h9 => h9) rfl dX1_add_21 ?_
  refine lv_iload_n hx hb dX1_add_24 rfl (lv_at hl 1 rfl) ?_
  refine lv_iconst (v := 3) hx hb dX1_add_25 (by decide) ?_
  refine lv_iand hx hb dX1_add_26 ?_
  refine wr_topi (nI kr) (ekr) ?_
  refine wr_aald hx hb hK hP g1 hkr (by decide) rfl dX1_add_27 ?_
  refine wr_calli0 hD hS hA (va_runS (As := [.int (nI n), .ref (hr kp), .ref (hr kq), .ref (hr kr)]) (rest := []) ⟨hx, hb, hml, hown, hts⟩ (m_add l D dI dF ws s.heap.size n (o + 2 + kp) (o + 2 + kq) (o + 2 + kr) (hr kp) (hr kq) (hr kr) n n n (R kp) (R kq) (R kr) (g2 kp hkp) (g2 kq hkq) (g2 kr hkr) (Nat.le_refl n) (Nat.le_refl n) (Nat.le_refl n) hB hB hB) (va_cwS 4 hts (lw_S q11 q12 q2 q13) rfl rfl rfl (by decide +kernel) ⟨Nat.le_of_ble_eq_true rfl, Nat.le_of_ble_eq_true rfl⟩) (wr_preS hP hK hD) rfl rfl hl.1 rfl (lv_room (Nat.le_of_ble_eq_true rfl)) dX1_add_28 ⟨Nat.le_of_ble_eq_true rfl, Nat.le_of_ble_eq_true rfl⟩) (fun r u H locs hp hP hD hS => ?_)
  exact wr_iret _ hx hb hr_ hlocks hP hD hS (⟨hp, wf_setrow g0 g1 g2 g3 hkr _⟩) (Nat.zero_le _) (Nat.zero_le _) dX1_add_31

set_option maxHeartbeats 4000000 in
set_option maxRecDepth 100000 in
/-- WholeFile.subtract -/
theorem f_subtract (l : Launch) (D : va_G) (dI dF : ClassId) (ws : va_W) (sz : Nat) (o h n : Nat) (R : Nat → Nat → Int32) (w : Nat → Int32) (hwf : wf_at dI dF ws o h n R w) (hn1 : 1 ≤ n) (hn2 : n ≤ 16) (r : Int32) (kr : Nat) (hkr : kr < 4) (ekr : r &&& 3 = nI kr) (p_ : Int32) (kp : Nat) (hkp : kp < 4) (ekp : p_ &&& 3 = nI kp) (q_ : Int32) (kq : Nat) (hkq : kq < 4) (ekq : q_ &&& 3 = nI kq) : Met l yX1_subtract (ws_ yX1_subtract cX1_subtract 4 (some .int)) wr_r2 (wr_Pc D dI dF [.ref h, .int r, .int p_, .int q_] ws sz) (va_Qi (fun (r : Int32) (u : va_W) => r = Int32.ofInt (wn_b (R kp) (R kq) n) ∧ wf_new dI dF ws u o h n (va_up R kr (wr_f (wn_bw (R kp) (R kq)) (R kr) n)) w) (fun u t => wr_B D (va_A ws sz) u t) (va_A ws sz)) 0 0 (va_A ws sz) := by
  refine Met.ofW (cc := cX1_subtract) (maxL := 4) (ret := (some .int)) (by decide) rfl ?_
  intro p e s m args below meth c s₁ B hml hv
  obtain ⟨rfl, hsz, hP, hK, hD0⟩ := hv
  have hx := B.exec
  have hb := B.bytes
  have hr_ := B.returns
  have hts := atoms_spec (ws := ws_ yX1_subtract cX1_subtract 4 (some .int)) B.pre
  have hts : ∀ w ∈ lw_all, w.before _ s = true := fun w h => hts w (List.mem_cons_of_mem _ h)
  have hown : s.vm.findClass RX1 = some m.cls := findClass_of_methodNamed B.named
  have hlocks := B.notSynchronized
  subst hsz
  have hD := hD0.self (sz := s.heap.size)
  generalize hAe : va_A ws s.heap.size = A at hD ⊢
  have hA : ∀ q : Nat, s.heap.size ≤ q → A q := fun q h => by rw [← hAe]; exact Or.inr h
  have hS : va_S A s.heap s.heap [] := va_S.rf
  have hl := lv_entry ([.ref h, .int r, .int p_, .int q_]) (n := 4) (Nat.le_of_ble_eq_true rfl)
  rw [lg_entry_eq]
  generalize (lg_sl ([.ref h, .int r, .int p_, .int q_]) ++ List.replicate (4 - (lg_sl ([.ref h, .int r, .int p_, .int q_])).length) Slot.unset).toArray = ls at hl ⊢
  have hl : lv_has ls 4 [(0, .ref h), (1, .int r), (2, .int p_), (3, .int q_)] := hl
  obtain ⟨hf, hw, hr, g0, g1, g2, g3⟩ := hwf
  have hB : n < 2 ^ 31 := by omega
  refine lv_aload_n hx hb dX1_subtract_0 rfl (lv_at hl 0 rfl) ?_
  refine va_get (D := D) (ci := 0) (v := .int (nI n)) (C := RX1) (T := TX1) (N := 3) hx hb hts in_X1 hown hK.1 hP _ g0 rfl 0 (by decide) (hts _ q112) (fun _ h9 => h9) rfl dX1_subtract_1 ?_
  refine lv_aload_n hx hb dX1_subtract_4 rfl (lv_at hl 0 rfl) ?_
  refine va_get (D := D) (ci := 0) (v := .ref hf) (C := RX1) (T := TX1) (N := 3) hx hb hts in_X1 hown hK.1 hP _ g0 rfl 1 (by decide) (hts _ q113) (fun _ h9 => h9) rfl dX1_subtract_5 ?_
  refine lv_iload_n hx hb dX1_subtract_8 rfl (lv_at hl 2 rfl) ?_
  refine lv_iconst (v := 3) hx hb dX1_subtract_9 (by decide) ?_
  refine lv_iand hx hb dX1_subtract_10 ?_
  refine wr_topi (nI kp) (ekp) ?_
  refine wr_aald hx hb hK hP g1 hkp (by decide) rfl dX1_subtract_11 ?_
  refine lv_aload_n hx hb dX1_subtract_12 rfl (lv_at hl 0 rfl) ?_
  refine va_get (D := D) (ci := 0) (v := .ref hf) (C := RX1) (T := TX1) (N := 3) hx hb hts in_X1 hown hK.1 hP _ g0 rfl 1 (by decide) (hts _ q113) (fun _ h9 => h9) rfl dX1_subtract_13 ?_
  refine lv_iload_n hx hb dX1_subtract_16 rfl (lv_at hl 3 rfl) ?_
  refine lv_iconst (v := 3) hx hb dX1_subtract_17 (by decide) ?_
  refine lv_iand hx hb dX1_subtract_18 ?_
  refine wr_topi (nI kq) (ekq) ?_
  refine wr_aald hx hb hK hP g1 hkq (by decide) rfl dX1_subtract_19 ?_
  refine lv_aload_n hx hb dX1_subtract_20 rfl (lv_at hl 0 rfl) ?_
  refine va_get (D := D) (ci := 0) (v := .ref hf) (C := RX1) (T := TX1) (N := 3) hx hb hts in_X1 hown hK.1 hP _ g0 rfl 1 (by decide) (hts _ q113) (fun _ h9 => h9) rfl dX1_subtract_21 ?_
  refine lv_iload_n hx hb dX1_subtract_24 rfl (lv_at hl 1 rfl) ?_
  refine lv_iconst (v := 3) hx hb dX1_subtract_25 (by decide) ?_
  refine lv_iand hx hb dX1_subtract_26 ?_
  refine wr_topi (nI kr) (ekr) ?_
  refine wr_aald hx hb hK hP g1 hkr (by decide) rfl dX1_subtract_27 ?_
  refine wr_calli0 hD hS hA (va_runS (As := [.int (nI n), .ref (hr kp), .ref (hr kq), .ref (hr kr)]) (rest := []) ⟨hx, hb, hml, hown, hts⟩ (m_sub l D dI dF ws s.heap.size n (o + 2 + kp) (o + 2 + kq) (o + 2 + kr) (hr kp) (hr kq) (hr kr) n n n (R kp) (R kq) (R kr) (g2 kp hkp) (g2 kq hkq) (g2 kr hkr) (Nat.le_refl n) (Nat.le_refl n) (Nat.le_refl n) hB hB hB) (va_cwS 4 hts (lw_S q19 q20 q2 q21) rfl rfl rfl (by decide +kernel) ⟨Nat.le_of_ble_eq_true rfl, Nat.le_of_ble_eq_true rfl⟩) (wr_preS hP hK hD) rfl rfl hl.1 rfl (lv_room (Nat.le_of_ble_eq_true rfl)) dX1_subtract_28 ⟨Nat.le_of_ble_eq_true rfl, Nat.le_of_ble_eq_true rfl⟩) (fun r u H locs hp hP hD hS => ?_)
  exact wr_iret _ hx hb hr_ hlocks hP hD hS (⟨hp, wf_setrow g0 g1 g2 g3 hkr _⟩) (Nat.zero_le _) (Nat.zero_le _) dX1_subtract_31

set_option maxHeartbeats 4000000 in
set_option maxRecDepth 100000 in
/-- WholeFile.multiply -/
theorem f_multiply (l : Launch) (D : va_G) (dI dF : ClassId) (ws : va_W) (sz : Nat) (o h n : Nat) (R : Nat → Nat → Int32) (w : Nat → Int32) (hwf : wf_at dI dF ws o h n R w) (hn1 : 1 ≤ n) (hn2 : n ≤ 16) (p_ : Int32) (kp : Nat) (hkp : kp < 4) (ekp : p_ &&& 3 = nI kp) (q_ : Int32) (kq : Nat) (hkq : kq < 4) (ekq : q_ &&& 3 = nI kq) : Met l yX1_multiply (ws_ yX1_multiply cX1_multiply 3 none) wr_r2 (wr_Pc D dI dF [.ref h, .int p_, .int q_] ws sz) (va_Qv (fun (u : va_W) => ∃ f : Nat → Int32, wn_v (wn_d f) (n + n) = wn_v (wn_d (R kp)) n * wn_v (wn_d (R kq)) n ∧ wf_new dI dF ws u o h n R f) (fun u t => wr_B D (va_A ws sz) u t) (va_A ws sz)) 0 0 (va_A ws sz) := by
  refine Met.ofW (cc := cX1_multiply) (maxL := 3) (ret := none) (by decide) rfl ?_
  intro p e s m args below meth c s₁ B hml hv
  obtain ⟨rfl, hsz, hP, hK, hD0⟩ := hv
  have hx := B.exec
  have hb := B.bytes
  have hr_ := B.returns
  have hts := atoms_spec (ws := ws_ yX1_multiply cX1_multiply 3 none) B.pre
  have hts : ∀ w ∈ lw_all, w.before _ s = true := fun w h => hts w (List.mem_cons_of_mem _ h)
  have hown : s.vm.findClass RX1 = some m.cls := findClass_of_methodNamed B.named
  have hlocks := B.notSynchronized
  subst hsz
  have hD := hD0.self (sz := s.heap.size)
  generalize hAe : va_A ws s.heap.size = A at hD ⊢
  have hA : ∀ q : Nat, s.heap.size ≤ q → A q := fun q h => by rw [← hAe]; exact Or.inr h
  have hS : va_S A s.heap s.heap [] := va_S.rf
  have hl := lv_entry ([.ref h, .int p_, .int q_]) (n := 3) (Nat.le_of_ble_eq_true rfl)
  rw [lg_entry_eq]
  generalize (lg_sl ([.ref h, .int p_, .int q_]) ++ List.replicate (3 - (lg_sl ([.ref h, .int p_, .int q_])).length) Slot.unset).toArray = ls at hl ⊢
  have hl : lv_has ls 3 [(0, .ref h), (1, .int p_), (2, .int q_)] := hl
  obtain ⟨hf, hw, hr, g0, g1, g2, g3⟩ := hwf
  have hB : n < 2 ^ 31 := by omega
  refine lv_aload_n hx hb dX1_multiply_0 rfl (lv_at hl 0 rfl) ?_
  refine va_get (D := D) (ci := 0) (v := .int (nI n)) (C := RX1) (T := TX1) (N := 3) hx hb hts in_X1 hown hK.1 hP _ g0 rfl 0 (by decide) (hts _ q112) (fun _ h9 => h9) rfl dX1_multiply_1 ?_
  refine lv_aload_n hx hb dX1_multiply_4 rfl (lv_at hl 0 rfl) ?_
  refine va_get (D := D) (ci := 0) (v := .ref hf) (C := RX1) (T := TX1) (N := 3) hx hb hts in_X1 hown hK.1 hP _ g0 rfl 1 (by decide) (hts _ q113) (fun _ h9 => h9) rfl dX1_multiply_5 ?_
  refine lv_iload_n hx hb dX1_multiply_8 rfl (lv_at hl 1 rfl) ?_
  refine lv_iconst (v := 3) hx hb dX1_multiply_9 (by decide) ?_
  refine lv_iand hx hb dX1_multiply_10 ?_
  refine wr_topi (nI kp) (ekp) ?_
  refine wr_aald hx hb hK hP g1 hkp (by decide) rfl dX1_multiply_11 ?_
  refine lv_aload_n hx hb dX1_multiply_12 rfl (lv_at hl 0 rfl) ?_
  refine va_get (D := D) (ci := 0) (v := .ref hf) (C := RX1) (T := TX1) (N := 3) hx hb hts in_X1 hown hK.1 hP _ g0 rfl 1 (by decide) (hts _ q113) (fun _ h9 => h9) rfl dX1_multiply_13 ?_
  refine lv_iload_n hx hb dX1_multiply_16 rfl (lv_at hl 2 rfl) ?_
  refine lv_iconst (v := 3) hx hb dX1_multiply_17 (by decide) ?_
  refine lv_iand hx hb dX1_multiply_18 ?_
  refine wr_topi (nI kq) (ekq) ?_
  refine wr_aald hx hb hK hP g1 hkq (by decide) rfl dX1_multiply_19 ?_
  refine lv_aload_n hx hb dX1_multiply_20 rfl (lv_at hl 0 rfl) ?_
  refine va_get (D := D) (ci := 0) (v := .ref hw) (C := RX1) (T := TX1) (N := 3) hx hb hts in_X1 hown hK.1 hP _ g0 rfl 2 (by decide) (hts _ q114) (fun _ h9 => h9) rfl dX1_multiply_21 ?_
  refine wr_callv0 hD hS hA (va_runS (As := [.int (nI n), .ref (hr kp), .ref (hr kq), .ref hw]) (rest := []) ⟨hx, hb, hml, hown, hts⟩ (m_mul l D dI dF ws s.heap.size n (o + 2 + kp) (o + 2 + kq) (o + 6) (hr kp) (hr kq) hw n n (n + n) (R kp) (R kq) w (g2 kp hkp) (g2 kq hkq) g3 (by omega) (by omega) hn1 (Nat.le_refl n) (Nat.le_refl n) (Nat.le_refl _) hB hB (by omega)) (va_cwS 4 hts (lw_S q26 q27 q2 q28) rfl rfl rfl (by decide +kernel) ⟨Nat.le_of_ble_eq_true rfl, Nat.le_of_ble_eq_true rfl⟩) (wr_preS hP hK hD) rfl rfl hl.1 rfl (lv_room (Nat.le_of_ble_eq_true rfl)) dX1_multiply_24 ⟨Nat.le_of_ble_eq_true rfl, Nat.le_of_ble_eq_true rfl⟩) (fun f H locs hp hP hD hS => ?_)
  exact wr_vret _ hx hb hr_ hlocks hP hD hS (⟨f, hp, wf_setwide g0 g1 g2 g3 f⟩) (Nat.zero_le _) (Nat.zero_le _) dX1_multiply_27

set_option maxHeartbeats 4000000 in
set_option maxRecDepth 100000 in
/-- WholeFile.square -/
theorem f_square (l : Launch) (D : va_G) (dI dF : ClassId) (ws : va_W) (sz : Nat) (o h n : Nat) (R : Nat → Nat → Int32) (w : Nat → Int32) (hwf : wf_at dI dF ws o h n R w) (hn1 : 1 ≤ n) (hn2 : n ≤ 16) (p_ : Int32) (kp : Nat) (hkp : kp < 4) (ekp : p_ &&& 3 = nI kp) : Met l yX1_square (ws_ yX1_square cX1_square 2 none) wr_r2 (wr_Pc D dI dF [.ref h, .int p_] ws sz) (va_Qv (fun (u : va_W) => ∃ f : Nat → Int32, wn_v (wn_d f) (n + n) = wn_v (wn_d (R kp)) n * wn_v (wn_d (R kp)) n ∧ wf_new dI dF ws u o h n R f) (fun u t => wr_B D (va_A ws sz) u t) (va_A ws sz)) 0 0 (va_A ws sz) := by
  refine Met.ofW (cc := cX1_square) (maxL := 2) (ret := none) (by decide) rfl ?_
  intro p e s m args below meth c s₁ B hml hv
  obtain ⟨rfl, hsz, hP, hK, hD0⟩ := hv
  have hx := B.exec
  have hb := B.bytes
  have hr_ := B.returns
  have hts := atoms_spec (ws := ws_ yX1_square cX1_square 2 none) B.pre
  have hts : ∀ w ∈ lw_all, w.before _ s = true := fun w h => hts w (List.mem_cons_of_mem _ h)
  have hown : s.vm.findClass RX1 = some m.cls := findClass_of_methodNamed B.named
  have hlocks := B.notSynchronized
  subst hsz
  have hD := hD0.self (sz := s.heap.size)
  generalize hAe : va_A ws s.heap.size = A at hD ⊢
  have hA : ∀ q : Nat, s.heap.size ≤ q → A q := fun q h => by rw [← hAe]; exact Or.inr h
  have hS : va_S A s.heap s.heap [] := va_S.rf
  have hl := lv_entry ([.ref h, .int p_]) (n := 2) (Nat.le_of_ble_eq_true rfl)
  rw [lg_entry_eq]
  generalize (lg_sl ([.ref h, .int p_]) ++ List.replicate (2 - (lg_sl ([.ref h, .int p_])).length) Slot.unset).toArray = ls at hl ⊢
  have hl : lv_has ls 2 [(0, .ref h), (1, .int p_)] := hl
  obtain ⟨hf, hw, hr, g0, g1, g2, g3⟩ := hwf
  have hB : n < 2 ^ 31 := by omega
  refine lv_aload_n hx hb dX1_square_0 rfl (lv_at hl 0 rfl) ?_
  refine va_get (D := D) (ci := 0) (v := .int (nI n)) (C := RX1) (T := TX1) (N := 3) hx hb hts in_X1 hown hK.1 hP _ g0 rfl 0 (by decide) (hts _ q112) (fun _ h9 => h9) rfl dX1_square_1 ?_
  refine lv_aload_n hx hb dX1_square_4 rfl (lv_at hl 0 rfl) ?_
  refine va_get (D := D) (ci := 0) (v := .ref hf) (C := RX1) (T := TX1) (N := 3) hx hb hts in_X1 hown hK.1 hP _ g0 rfl 1 (by decide) (hts _ q113) (fun _ h9 => h9) rfl dX1_square_5 ?_
  refine lv_iload_n hx hb dX1_square_8 rfl (lv_at hl 1 rfl) ?_
  refine lv_iconst (v := 3) hx hb dX1_square_9 (by decide) ?_
  refine lv_iand hx hb dX1_square_10 ?_
  refine wr_topi (nI kp) (ekp) ?_
  refine wr_aald hx hb hK hP g1 hkp (by decide) rfl dX1_square_11 ?_
  refine lv_aload_n hx hb dX1_square_12 rfl (lv_at hl 0 rfl) ?_
  refine va_get (D := D) (ci := 0) (v := .ref hw) (C := RX1) (T := TX1) (N := 3) hx hb hts in_X1 hown hK.1 hP _ g0 rfl 2 (by decide) (hts _ q114) (fun _ h9 => h9) rfl dX1_square_13 ?_
  refine wr_callv0 hD hS hA (va_runS (As := [.int (nI n), .ref (hr kp), .ref hw]) (rest := []) ⟨hx, hb, hml, hown, hts⟩ (m_square l D dI dF ws s.heap.size n (o + 2 + kp) (o + 6) (hr kp) hw n (n + n) (R kp) w (g2 kp hkp) g3 (by omega) hn1 (Nat.le_refl n) (Nat.le_refl _) (by omega) (by omega)) (va_cwS 3 hts (lw_S q39 q40 q2 q41) rfl rfl rfl (by decide +kernel) ⟨Nat.le_of_ble_eq_true rfl, Nat.le_of_ble_eq_true rfl⟩) (wr_preS hP hK hD) rfl rfl hl.1 rfl (lv_room (Nat.le_of_ble_eq_true rfl)) dX1_square_16 ⟨Nat.le_of_ble_eq_true rfl, Nat.le_of_ble_eq_true rfl⟩) (fun f H locs hp hP hD hS => ?_)
  exact wr_vret _ hx hb hr_ hlocks hP hD hS (⟨f, hp, wf_setwide g0 g1 g2 g3 f⟩) (Nat.zero_le _) (Nat.zero_le _) dX1_square_19

set_option maxHeartbeats 4000000 in
set_option maxRecDepth 100000 in
/-- WholeFile.multiplyAdd -/
theorem f_multiplyAdd (l : Launch) (D : va_G) (dI dF : ClassId) (ws : va_W) (sz : Nat) (o h n : Nat) (R : Nat → Nat → Int32) (w : Nat → Int32) (hwf : wf_at dI dF ws o h n R w) (hn1 : 1 ≤ n) (hn2 : n ≤ 16) (p_ : Int32) (kp : Nat) (hkp : kp < 4) (ekp : p_ &&& 3 = nI kp) (q_ : Int32) (kq : Nat) (hkq : kq < 4) (ekq : q_ &&& 3 = nI kq) : Met l yX1_multiplyAdd (ws_ yX1_multiplyAdd cX1_multiplyAdd 3 (some .int)) wr_r2 (wr_Pc D dI dF [.ref h, .int p_, .int q_] ws sz) (va_Qi (fun (r : Int32) (u : va_W) => ∃ (f : Nat → Int32) (c : Nat), c ≤ 1 ∧ r = nI c ∧ wn_v (wn_d f) (n + n) + c * wn_p (n + n) = wn_v (wn_d w) (n + n) + wn_v (wn_d (R kp)) n * wn_v (wn_d (R kq)) n ∧ wf_new dI dF ws u o h n R f) (fun u t => wr_B D (va_A ws sz) u t) (va_A ws sz)) 0 0 (va_A ws sz) := by
  refine Met.ofW (cc := cX1_multiplyAdd) (maxL := 3) (ret := (some .int)) (by decide) rfl ?_
  intro p e s m args below meth c s₁ B hml hv
  obtain ⟨rfl, hsz, hP, hK, hD0⟩ := hv
  have hx := B.exec
  have hb := B.bytes
  have hr_ := B.returns
  have hts := atoms_spec (ws := ws_ yX1_multiplyAdd cX1_multiplyAdd 3 (some .int)) B.pre
  have hts : ∀ w ∈ lw_all, w.before _ s = true := fun w h => hts w (List.mem_cons_of_mem _ h)
  have hown : s.vm.findClass RX1 = some m.cls := findClass_of_methodNamed B.named
  have hlocks := B.notSynchronized
  subst hsz
  have hD := hD0.self (sz := s.heap.size)
  generalize hAe : va_A ws s.heap.size = A at hD ⊢
  have hA : ∀ q : Nat, s.heap.size ≤ q → A q := fun q h => by rw [← hAe]; exact Or.inr h
  have hS : va_S A s.heap s.heap [] := va_S.rf
  have hl := lv_entry ([.ref h, .int p_, .int q_]) (n := 3) (Nat.le_of_ble_eq_true rfl)
  rw [lg_entry_eq]
  generalize (lg_sl ([.ref h, .int p_, .int q_]) ++ List.replicate (3 - (lg_sl ([.ref h, .int p_, .int q_])).length) Slot.unset).toArray = ls at hl ⊢
  have hl : lv_has ls 3 [(0, .ref h), (1, .int p_), (2, .int q_)] := hl
  obtain ⟨hf, hw, hr, g0, g1, g2, g3⟩ := hwf
  have hB : n < 2 ^ 31 := by omega
  refine lv_aload_n hx hb dX1_multiplyAdd_0 rfl (lv_at hl 0 rfl) ?_
  refine va_get (D := D) (ci := 0) (v := .int (nI n)) (C := RX1) (T := TX1) (N := 3) hx hb hts in_X1 hown hK.1 hP _ g0 rfl 0 (by decide) (hts _ q112) (fun _ h9 => h9) rfl dX1_multiplyAdd_1 ?_
  refine lv_aload_n hx hb dX1_multiplyAdd_4 rfl (lv_at hl 0 rfl) ?_
  refine va_get (D := D) (ci := 0) (v := .ref hf) (C := RX1) (T := TX1) (N := 3) hx hb hts in_X1 hown hK.1 hP _ g0 rfl 1 (by decide) (hts _ q113) (fun _ h9 => h9) rfl dX1_multiplyAdd_5 ?_
  refine lv_iload_n hx hb dX1_multiplyAdd_8 rfl (lv_at hl 1 rfl) ?_
  refine lv_iconst (v := 3) hx hb dX1_multiplyAdd_9 (by decide) ?_
  refine lv_iand hx hb dX1_multiplyAdd_10 ?_
  refine wr_topi (nI kp) (ekp) ?_
  refine wr_aald hx hb hK hP g1 hkp (by decide) rfl dX1_multiplyAdd_11 ?_
  refine lv_aload_n hx hb dX1_multiplyAdd_12 rfl (lv_at hl 0 rfl) ?_
  refine va_get (D := D) (ci := 0) (v := .ref hf) (C := RX1) (T := TX1) (N := 3) hx hb hts in_X1 hown hK.1 hP _ g0 rfl 1 (by decide) (hts _ q113) (fun _ h9 => h9) rfl dX1_multiplyAdd_13 ?_
  refine lv_iload_n hx hb dX1_multiplyAdd_16 rfl (lv_at hl 2 rfl) ?_
  refine lv_iconst (v := 3) hx hb dX1_multiplyAdd_17 (by decide) ?_
  refine lv_iand hx hb dX1_multiplyAdd_18 ?_
  refine wr_topi (nI kq) (ekq) ?_
  refine wr_aald hx hb hK hP g1 hkq (by decide) rfl dX1_multiplyAdd_19 ?_
  refine lv_aload_n hx hb dX1_multiplyAdd_20 rfl (lv_at hl 0 rfl) ?_
  refine va_get (D := D) (ci := 0) (v := .ref hw) (C := RX1) (T := TX1) (N := 3) hx hb hts in_X1 hown hK.1 hP _ g0 rfl 2 (by decide) (hts _ q114) (fun _ h9 => h9) rfl dX1_multiplyAdd_21 ?_
  refine wr_calli0 hD hS hA (va_runS (As := [.int (nI n), .ref (hr kp), .ref (hr kq), .ref hw]) (rest := []) ⟨hx, hb, hml, hown, hts⟩ (m_mulAddTo l D dI dF ws s.heap.size n (o + 2 + kp) (o + 2 + kq) (o + 6) (hr kp) (hr kq) hw n n (n + n) (R kp) (R kq) w (g2 kp hkp) (g2 kq hkq) g3 (by omega) (by omega) hn1 (Nat.le_refl n) (Nat.le_refl n) (Nat.le_refl _) hB hB (by omega)) (va_cwS 4 hts (lw_S q52 q53 q2 q54) rfl rfl rfl (by decide +kernel) ⟨Nat.le_of_ble_eq_true rfl, Nat.le_of_ble_eq_true rfl⟩) (wr_preS hP hK hD) rfl rfl hl.1 rfl (lv_room (Nat.le_of_ble_eq_true rfl)) dX1_multiplyAdd_24 ⟨Nat.le_of_ble_eq_true rfl, Nat.le_of_ble_eq_true rfl⟩) (fun r f H locs hp hP hD hS => ?_)
  obtain ⟨c, hc1, hc2, hc3⟩ := hp
  exact wr_iret _ hx hb hr_ hlocks hP hD hS (⟨f, c, hc1, hc2, hc3, wf_setwide g0 g1 g2 g3 f⟩) (Nat.zero_le _) (Nat.zero_le _) dX1_multiplyAdd_27

set_option maxHeartbeats 4000000 in
set_option maxRecDepth 100000 in
/-- WholeFile.up -/
theorem f_up (l : Launch) (D : va_G) (dI dF : ClassId) (ws : va_W) (sz : Nat) (o h n : Nat) (R : Nat → Nat → Int32) (w : Nat → Int32) (hwf : wf_at dI dF ws o h n R w) (hn1 : 1 ≤ n) (hn2 : n ≤ 16) (r : Int32) (k : Nat) (hk : k < 4) (ek : r &&& 3 = nI k) (bits : Int32) : Met l yX1_up (ws_ yX1_up cX1_up 3 (some .int)) wr_r2 (wr_Pc D dI dF [.ref h, .int r, .int bits] ws sz) (va_Qi (fun (r : Int32) (u : va_W) => r = wn_ur (wn_pv 0 (R k) n) (-(nI (wf_k bits))) ∧ wf_new dI dF ws u o h n (va_up R k (wr_f (wn_uw (nI (wf_k bits)) 0 (R k)) (R k) n)) w) (fun u t => wr_B D (va_A ws sz) u t) (va_A ws sz)) 0 0 (va_A ws sz) := by
  refine Met.ofW (cc := cX1_up) (maxL := 3) (ret := (some .int)) (by decide) rfl ?_
  intro p e s m args below meth c s₁ B hml hv
  obtain ⟨rfl, hsz, hP, hK, hD0⟩ := hv
  have hx := B.exec
  have hb := B.bytes
  have hr_ := B.returns
  have hts := atoms_spec (ws := ws_ yX1_up cX1_up 3 (some .int)) B.pre
  have hts : ∀ w ∈ lw_all, w.before _ s = true := fun w h => hts w (List.mem_cons_of_mem _ h)
  have hown : s.vm.findClass RX1 = some m.cls := findClass_of_methodNamed B.named
  have hlocks := B.notSynchronized
  subst hsz
  have hD := hD0.self (sz := s.heap.size)
  generalize hAe : va_A ws s.heap.size = A at hD ⊢
  have hA : ∀ q : Nat, s.heap.size ≤ q → A q := fun q h => by rw [← hAe]; exact Or.inr h
  have hS : va_S A s.heap s.heap [] := va_S.rf
  have hl := lv_entry ([.ref h, .int r, .int bits]) (n := 3) (Nat.le_of_ble_eq_true rfl)
  rw [lg_entry_eq]
  generalize (lg_sl ([.ref h, .int r, .int bits]) ++ List.replicate (3 - (lg_sl ([.ref h, .int r, .int bits])).length) Slot.unset).toArray = ls at hl ⊢
  have hl : lv_has ls 3 [(0, .ref h), (1, .int r), (2, .int bits)] := hl
  obtain ⟨hf, hw, hr, g0, g1, g2, g3⟩ := hwf
  have hB : n < 2 ^ 31 := by omega
  refine lv_aload_n hx hb dX1_up_0 rfl (lv_at hl 0 rfl) ?_
  refine va_get (D := D) (ci := 0) (v := .int (nI n)) (C := RX1) (T := TX1) (N := 3) hx hb hts in_X1 hown hK.1 hP _ g0 rfl 0 (by decide) (hts _ q112) (fun _ h9 => h9) rfl dX1_up_1 ?_
  refine lv_aload_n hx hb dX1_up_4 rfl (lv_at hl 0 rfl) ?_
  refine va_get (D := D) (ci := 0) (v := .ref hf) (C := RX1) (T := TX1) (N := 3) hx hb hts in_X1 hown hK.1 hP _ g0 rfl 1 (by decide) (hts _ q113) (fun _ h9 => h9) rfl dX1_up_5 ?_
  refine lv_iload_n hx hb dX1_up_8 rfl (lv_at hl 1 rfl) ?_
  refine lv_iconst (v := 3) hx hb dX1_up_9 (by decide) ?_
  refine lv_iand hx hb dX1_up_10 ?_
  refine wr_topi (nI k) (ek) ?_
  refine wr_aald hx hb hK hP g1 hk (by decide) rfl dX1_up_11 ?_
  refine lv_iconst (v := nI 1) hx hb dX1_up_12 (by decide) ?_
  refine lv_iload_n hx hb dX1_up_13 rfl (lv_at hl 2 rfl) ?_
  refine lv_ldc (v := 2147483647) hx hb hown (hts _ q59) dX1_up_14 ?_
  refine lv_iand hx hb dX1_up_16 ?_
  refine wr_topi (nI (wn_w bits % 2147483648)) (wf_and31 bits) ?_
  refine lv_bipush (v := 31) hx hb dX1_up_17 (by decide) ?_
  refine lv_irem hx hb dX1_up_19 (by decide) ?_
  refine wr_topi (nI (wn_w bits % 2147483648 % 31)) (wf_rem31 bits) ?_
  refine lv_iadd hx hb dX1_up_20 ?_
  refine wr_topi (nI (wf_k bits)) (nI_add _ _) ?_
  refine lv_iconst (v := 0) hx hb dX1_up_21 (by decide) ?_
  refine wr_calli0 hD hS hA (va_runS (As := [.int (nI n), .ref (hr k), .int (nI (wf_k bits)), .int 0]) (rest := []) ⟨hx, hb, hml, hown, hts⟩ (m_shiftUpBits l D dI dF ws s.heap.size n (o + 2 + k) (hr k) n (nI (wf_k bits)) 0 (R k) (g2 k hk) (Nat.le_refl n) hB) (va_cwS 4 hts (lw_S q60 q61 q2 q62) rfl rfl rfl (by decide +kernel) ⟨Nat.le_of_ble_eq_true rfl, Nat.le_of_ble_eq_true rfl⟩) (wr_preS hP hK hD) rfl rfl hl.1 rfl (lv_room (Nat.le_of_ble_eq_true rfl)) dX1_up_22 ⟨Nat.le_of_ble_eq_true rfl, Nat.le_of_ble_eq_true rfl⟩) (fun r u H locs hp hP hD hS => ?_)
  exact wr_iret _ hx hb hr_ hlocks hP hD hS (⟨hp, wf_setrow g0 g1 g2 g3 hk _⟩) (Nat.zero_le _) (Nat.zero_le _) dX1_up_25

set_option maxHeartbeats 4000000 in
set_option maxRecDepth 100000 in
/-- WholeFile.down -/
theorem f_down (l : Launch) (D : va_G) (dI dF : ClassId) (ws : va_W) (sz : Nat) (o h n : Nat) (R : Nat → Nat → Int32) (w : Nat → Int32) (hwf : wf_at dI dF ws o h n R w) (hn1 : 1 ≤ n) (hn2 : n ≤ 16) (r : Int32) (k : Nat) (hk : k < 4) (ek : r &&& 3 = nI k) (bits : Int32) : Met l yX1_down (ws_ yX1_down cX1_down 3 (some .int)) wr_r2 (wr_Pc D dI dF [.ref h, .int r, .int bits] ws sz) (va_Qi (fun (r : Int32) (u : va_W) => r = wn_su (wn_nx n 0 (R k) 0) (-(nI (wf_k bits))) ∧ wf_new dI dF ws u o h n (va_up R k (wr_f (wn_ow (nI (wf_k bits)) 0 (R k) n) (R k) n)) w) (fun u t => wr_B D (va_A ws sz) u t) (va_A ws sz)) 0 0 (va_A ws sz) := by
  refine Met.ofW (cc := cX1_down) (maxL := 3) (ret := (some .int)) (by decide) rfl ?_
  intro p e s m args below meth c s₁ B hml hv
  obtain ⟨rfl, hsz, hP, hK, hD0⟩ := hv
  have hx := B.exec
  have hb := B.bytes
  have hr_ := B.returns
  have hts := atoms_spec (ws := ws_ yX1_down cX1_down 3 (some .int)) B.pre
  have hts : ∀ w ∈ lw_all, w.before _ s = true := fun w h => hts w (List.mem_cons_of_mem _ h)
  have hown : s.vm.findClass RX1 = some m.cls := findClass_of_methodNamed B.named
  have hlocks := B.notSynchronized
  subst hsz
  have hD := hD0.self (sz := s.heap.size)
  generalize hAe : va_A ws s.heap.size = A at hD ⊢
  have hA : ∀ q : Nat, s.heap.size ≤ q → A q := fun q h => by rw [← hAe]; exact Or.inr h
  have hS : va_S A s.heap s.heap [] := va_S.rf
  have hl := lv_entry ([.ref h, .int r, .int bits]) (n := 3) (Nat.le_of_ble_eq_true rfl)
  rw [lg_entry_eq]
  generalize (lg_sl ([.ref h, .int r, .int bits]) ++ List.replicate (3 - (lg_sl ([.ref h, .int r, .int bits])).length) Slot.unset).toArray = ls at hl ⊢
  have hl : lv_has ls 3 [(0, .ref h), (1, .int r), (2, .int bits)] := hl
  obtain ⟨hf, hw, hr, g0, g1, g2, g3⟩ := hwf
  have hB : n < 2 ^ 31 := by omega
  refine lv_aload_n hx hb dX1_down_0 rfl (lv_at hl 0 rfl) ?_
  refine va_get (D := D) (ci := 0) (v := .int (nI n)) (C := RX1) (T := TX1) (N := 3) hx hb hts in_X1 hown hK.1 hP _ g0 rfl 0 (by decide) (hts _ q112) (fun _ h9 => h9) rfl dX1_down_1 ?_
  refine lv_aload_n hx hb dX1_down_4 rfl (lv_at hl 0 rfl) ?_
  refine va_get (D := D) (ci := 0) (v := .ref hf) (C := RX1) (T := TX1) (N := 3) hx hb hts in_X1 hown hK.1 hP _ g0 rfl 1 (by decide) (hts _ q113) (fun _ h9 => h9) rfl dX1_down_5 ?_
  refine lv_iload_n hx hb dX1_down_8 rfl (lv_at hl 1 rfl) ?_
  refine lv_iconst (v := 3) hx hb dX1_down_9 (by decide) ?_
  refine lv_iand hx hb dX1_down_10 ?_
  refine wr_topi (nI k) (ek) ?_
  refine wr_aald hx hb hK hP g1 hk (by decide) rfl dX1_down_11 ?_
  refine lv_iconst (v := nI 1) hx hb dX1_down_12 (by decide) ?_
  refine lv_iload_n hx hb dX1_down_13 rfl (lv_at hl 2 rfl) ?_
  refine lv_ldc (v := 2147483647) hx hb hown (hts _ q59) dX1_down_14 ?_
  refine lv_iand hx hb dX1_down_16 ?_
  refine wr_topi (nI (wn_w bits % 2147483648)) (wf_and31 bits) ?_
  refine lv_bipush (v := 31) hx hb dX1_down_17 (by decide) ?_
  refine lv_irem hx hb dX1_down_19 (by decide) ?_
  refine wr_topi (nI (wn_w bits % 2147483648 % 31)) (wf_rem31 bits) ?_
  refine lv_iadd hx hb dX1_down_20 ?_
  refine wr_topi (nI (wf_k bits)) (nI_add _ _) ?_
  refine lv_iconst (v := 0) hx hb dX1_down_21 (by decide) ?_
  refine wr_calli0 hD hS hA (va_runS (As := [.int (nI n), .ref (hr k), .int (nI (wf_k bits)), .int 0]) (rest := []) ⟨hx, hb, hml, hown, hts⟩ (m_shiftDownBits l D dI dF ws s.heap.size n (o + 2 + k) (hr k) n (nI (wf_k bits)) 0 (R k) (g2 k hk) (Nat.le_refl n) hB) (va_cwS 4 hts (lw_S q67 q68 q2 q69) rfl rfl rfl (by decide +kernel) ⟨Nat.le_of_ble_eq_true rfl, Nat.le_of_ble_eq_true rfl⟩) (wr_preS hP hK hD) rfl rfl hl.1 rfl (lv_room (Nat.le_of_ble_eq_true rfl)) dX1_down_22 ⟨Nat.le_of_ble_eq_true rfl, Nat.le_of_ble_eq_true rfl⟩) (fun r u H locs hp hP hD hS => ?_)
  exact wr_iret _ hx hb hr_ hlocks hP hD hS (⟨hp, wf_setrow g0 g1 g2 g3 hk _⟩) (Nat.zero_le _) (Nat.zero_le _) dX1_down_25

set_option maxHeartbeats 4000000 in
set_option maxRecDepth 100000 in
/-- WholeFile.more -/
theorem f_more (l : Launch) (D : va_G) (dI dF : ClassId) (ws : va_W) (sz : Nat) (o h n : Nat) (R : Nat → Nat → Int32) (w : Nat → Int32) (hwf : wf_at dI dF ws o h n R w) (hn1 : 1 ≤ n) (hn2 : n ≤ 16) (r : Int32) (k : Nat) (hk : k < 4) (ek : r &&& 3 = nI k) : Met l yX1_more (ws_ yX1_more cX1_more 2 (some .int)) wr_r2 (wr_Pc D dI dF [.ref h, .int r] ws sz) (va_Qi (fun (r : Int32) (u : va_W) => r = wn_ig (R k) n ∧ wf_new dI dF ws u o h n (va_up R k (wr_f (wn_iw (R k)) (R k) n)) w) (fun u t => wr_B D (va_A ws sz) u t) (va_A ws sz)) 0 0 (va_A ws sz) := by
  refine Met.ofW (cc := cX1_more) (maxL := 2) (ret := (some .int)) (by decide) rfl ?_
  intro p e s m args below meth c s₁ B hml hv
  obtain ⟨rfl, hsz, hP, hK, hD0⟩ := hv
  have hx := B.exec
  have hb := B.bytes
  have hr_ := B.returns
  have hts := atoms_spec (ws := ws_ yX1_more cX1_more 2 (some .int)) B.pre
  have hts : ∀ w ∈ lw_all, w.before _ s = true := fun w h => hts w (List.mem_cons_of_mem _ h)
  have hown : s.vm.findClass RX1 = some m.cls := findClass_of_methodNamed B.named
  have hlocks := B.notSynchronized
  subst hsz
  have hD := hD0.self (sz := s.heap.size)
  generalize hAe : va_A ws s.heap.size = A at hD ⊢
  have hA : ∀ q : Nat, s.heap.size ≤ q → A q := fun q h => by rw [← hAe]; exact Or.inr h
  have hS : va_S A s.heap s.heap [] := va_S.rf
  have hl := lv_entry ([.ref h, .int r]) (n := 2) (Nat.le_of_ble_eq_true rfl)
  rw [lg_entry_eq]
  generalize (lg_sl ([.ref h, .int r]) ++ List.replicate (2 - (lg_sl ([.ref h, .int r])).length) Slot.unset).toArray = ls at hl ⊢
  have hl : lv_has ls 2 [(0, .ref h), (1, .int r)] := hl
  obtain ⟨hf, hw, hr, g0, g1, g2, g3⟩ := hwf
  have hB : n < 2 ^ 31 := by omega
  refine lv_aload_n hx hb dX1_more_0 rfl (lv_at hl 0 rfl) ?_
  refine va_get (D := D) (ci := 0) (v := .int (nI n)) (C := RX1) (T := TX1) (N := 3) hx hb hts in_X1 hown hK.1 hP _ g0 rfl 0 (by decide) (hts _ q112) (fun _ h9 => h9) rfl dX1_more_1 ?_
  refine lv_aload_n hx hb dX1_more_4 rfl (lv_at hl 0 rfl) ?_
  refine va_get (D := D) (ci := 0) (v := .ref hf) (C := RX1) (T := TX1) (N := 3) hx hb hts in_X1 hown hK.1 hP _ g0 rfl 1 (by decide) (hts _ q113) (fun _ h9 => h9) rfl dX1_more_5 ?_
  refine lv_iload_n hx hb dX1_more_8 rfl (lv_at hl 1 rfl) ?_
  refine lv_iconst (v := 3) hx hb dX1_more_9 (by decide) ?_
  refine lv_iand hx hb dX1_more_10 ?_
  refine wr_topi (nI k) (ek) ?_
  refine wr_aald hx hb hK hP g1 hk (by decide) rfl dX1_more_11 ?_
  refine wr_calli0 hD hS hA (va_runS (As := [.int (nI n), .ref (hr k)]) (rest := []) ⟨hx, hb, hml, hown, hts⟩ (m_inc l D dI dF ws s.heap.size n (o + 2 + k) (hr k) n (R k) (g2 k hk) (Nat.le_refl n) hB) (va_cwS 2 hts (lw_S q74 q75 q2 q76) rfl rfl rfl (by decide +kernel) ⟨Nat.le_of_ble_eq_true rfl, Nat.le_of_ble_eq_true rfl⟩) (wr_preS hP hK hD) rfl rfl hl.1 rfl (lv_room (Nat.le_of_ble_eq_true rfl)) dX1_more_12 ⟨Nat.le_of_ble_eq_true rfl, Nat.le_of_ble_eq_true rfl⟩) (fun r u H locs hp hP hD hS => ?_)
  exact wr_iret _ hx hb hr_ hlocks hP hD hS (⟨hp, wf_setrow g0 g1 g2 g3 hk _⟩) (Nat.zero_le _) (Nat.zero_le _) dX1_more_15

set_option maxHeartbeats 4000000 in
set_option maxRecDepth 100000 in
/-- WholeFile.less -/
theorem f_less (l : Launch) (D : va_G) (dI dF : ClassId) (ws : va_W) (sz : Nat) (o h n : Nat) (R : Nat → Nat → Int32) (w : Nat → Int32) (hwf : wf_at dI dF ws o h n R w) (hn1 : 1 ≤ n) (hn2 : n ≤ 16) (r : Int32) (k : Nat) (hk : k < 4) (ek : r &&& 3 = nI k) : Met l yX1_less (ws_ yX1_less cX1_less 2 (some .int)) wr_r2 (wr_Pc D dI dF [.ref h, .int r] ws sz) (va_Qi (fun (r : Int32) (u : va_W) => r = -(wn_dg (R k) n) ∧ wf_new dI dF ws u o h n (va_up R k (wr_f (wn_dw (R k)) (R k) n)) w) (fun u t => wr_B D (va_A ws sz) u t) (va_A ws sz)) 0 0 (va_A ws sz) := by
  refine Met.ofW (cc := cX1_less) (maxL := 2) (ret := (some .int)) (by decide) rfl ?_
  intro p e s m args below meth c s₁ B hml hv
  obtain ⟨rfl, hsz, hP, hK, hD0⟩ := hv
  have hx := B.exec
  have hb := B.bytes
  have hr_ := B.returns
  have hts := atoms_spec (ws := ws_ yX1_less cX1_less 2 (some .int)) B.pre
  have hts : ∀ w ∈ lw_all, w.before _ s = true := fun w h => hts w (List.mem_cons_of_mem _ h)
  have hown : s.vm.findClass RX1 = some m.cls := findClass_of_methodNamed B.named
  have hlocks := B.notSynchronized
  subst hsz
  have hD := hD0.self (sz := s.heap.size)
  generalize hAe : va_A ws s.heap.size = A at hD ⊢
  have hA : ∀ q : Nat, s.heap.size ≤ q → A q := fun q h => by rw [← hAe]; exact Or.inr h
  have hS : va_S A s.heap s.heap [] := va_S.rf
  have hl := lv_entry ([.ref h, .int r]) (n := 2) (Nat.le_of_ble_eq_true rfl)
  rw [lg_entry_eq]
  generalize (lg_sl ([.ref h, .int r]) ++ List.replicate (2 - (lg_sl ([.ref h, .int r])).length) Slot.unset).toArray = ls at hl ⊢
  have hl : lv_has ls 2 [(0, .ref h), (1, .int r)] := hl
  obtain ⟨hf, hw, hr, g0, g1, g2, g3⟩ := hwf
  have hB : n < 2 ^ 31 := by omega
  refine lv_aload_n hx hb dX1_less_0 rfl (lv_at hl 0 rfl) ?_
  refine va_get (D := D) (ci := 0) (v := .int (nI n)) (C := RX1) (T := TX1) (N := 3) hx hb hts in_X1 hown hK.1 hP _ g0 rfl 0 (by decide) (hts _ q112) (fun _ h9 => h9) rfl dX1_less_1 ?_
  refine lv_aload_n hx hb dX1_less_4 rfl (lv_at hl 0 rfl) ?_
  refine va_get (D := D) (ci := 0) (v := .ref hf) (C := RX1) (T := TX1) (N := 3) hx hb hts in_X1 hown hK.1 hP _ g0 rfl 1 (by decide) (hts _ q113) (fun _ h9 => h9) rfl dX1_less_5 ?_
  refine lv_iload_n hx hb dX1_less_8 rfl (lv_at hl 1 rfl) ?_
  refine lv_iconst (v := 3) hx hb dX1_less_9 (by decide) ?_
  refine lv_iand hx hb dX1_less_10 ?_
  refine wr_topi (nI k) (ek) ?_
  refine wr_aald hx hb hK hP g1 hk (by decide) rfl dX1_less_11 ?_
  refine wr_calli0 hD hS hA (va_runS (As := [.int (nI n), .ref (hr k)]) (rest := []) ⟨hx, hb, hml, hown, hts⟩ (m_dec l D dI dF ws s.heap.size n (o + 2 + k) (hr k) n (R k) (g2 k hk) (Nat.le_refl n) hB) (va_cwS 2 hts (lw_S q81 q82 q2 q83) rfl rfl rfl (by decide +kernel) ⟨Nat.le_of_ble_eq_true rfl, Nat.le_of_ble_eq_true rfl⟩) (wr_preS hP hK hD) rfl rfl hl.1 rfl (lv_room (Nat.le_of_ble_eq_true rfl)) dX1_less_12 ⟨Nat.le_of_ble_eq_true rfl, Nat.le_of_ble_eq_true rfl⟩) (fun r u H locs hp hP hD hS => ?_)
  exact wr_iret _ hx hb hr_ hlocks hP hD hS (⟨hp, wf_setrow g0 g1 g2 g3 hk _⟩) (Nat.zero_le _) (Nat.zero_le _) dX1_less_15

set_option maxHeartbeats 4000000 in
set_option maxRecDepth 100000 in
/-- WholeFile.atLeast -/
theorem f_atLeast (l : Launch) (D : va_G) (dI dF : ClassId) (ws : va_W) (sz : Nat) (o h n : Nat) (R : Nat → Nat → Int32) (w : Nat → Int32) (hwf : wf_at dI dF ws o h n R w) (hn1 : 1 ≤ n) (hn2 : n ≤ 16) (p_ : Int32) (kp : Nat) (hkp : kp < 4) (ekp : p_ &&& 3 = nI kp) (q_ : Int32) (kq : Nat) (hkq : kq < 4) (ekq : q_ &&& 3 = nI kq) : Met l yX1_atLeast (ws_ yX1_atLeast cX1_atLeast 3 (some .boolean)) wr_r2 (wr_Pc D dI dF [.ref h, .int p_, .int q_] ws sz) (va_Qi (fun (r : Int32) (_ : Unit) => (wn_v (wn_d (R kq)) n ≤ wn_v (wn_d (R kp)) n → r = 1) ∧ (¬ wn_v (wn_d (R kq)) n ≤ wn_v (wn_d (R kp)) n → r = 0)) (fun _ t => wr_B D (va_A ws sz) ws t) (va_A ws sz)) 0 0 (va_A ws sz) := by
  refine Met.ofW (cc := cX1_atLeast) (maxL := 3) (ret := (some .boolean)) (by decide) rfl ?_
  intro p e s m args below meth c s₁ B hml hv
  obtain ⟨rfl, hsz, hP, hK, hD0⟩ := hv
  have hx := B.exec
  have hb := B.bytes
  have hr_ := B.returns
  have hts := atoms_spec (ws := ws_ yX1_atLeast cX1_atLeast 3 (some .boolean)) B.pre
  have hts : ∀ w ∈ lw_all, w.before _ s = true := fun w h => hts w (List.mem_cons_of_mem _ h)
  have hown : s.vm.findClass RX1 = some m.cls := findClass_of_methodNamed B.named
  have hlocks := B.notSynchronized
  subst hsz
  have hD := hD0.self (sz := s.heap.size)
  generalize hAe : va_A ws s.heap.size = A at hD ⊢
  have hA : ∀ q : Nat, s.heap.size ≤ q → A q := fun q h => by rw [← hAe]; exact Or.inr h
  have hS : va_S A s.heap s.heap [] := va_S.rf
  have hl := lv_entry ([.ref h, .int p_, .int q_]) (n := 3) (Nat.le_of_ble_eq_true rfl)
  rw [lg_entry_eq]
  generalize (lg_sl ([.ref h, .int p_, .int q_]) ++ List.replicate (3 - (lg_sl ([.ref h, .int p_, .int q_])).length) Slot.unset).toArray = ls at hl ⊢
  have hl : lv_has ls 3 [(0, .ref h), (1, .int p_), (2, .int q_)] := hl
  obtain ⟨hf, hw, hr, g0, g1, g2, g3⟩ := hwf
  have hB : n < 2 ^ 31 := by omega
  refine lv_aload_n hx hb dX1_atLeast_0 rfl (lv_at hl 0 rfl) ?_
  refine va_get (D := D) (ci := 0) (v := .int (nI n)) (C := RX1) (T := TX1) (N := 3) hx hb hts in_X1 hown hK.1 hP _ g0 rfl 0 (by decide) (hts _ q112) (fun _ h9 => h9) rfl dX1_atLeast_1 ?_
  refine lv_aload_n hx hb dX1_atLeast_4 rfl (lv_at hl 0 rfl) ?_
  refine va_get (D := D) (ci := 0) (v := .ref hf) (C := RX1) (T := TX1) (N := 3) hx hb hts in_X1 hown hK.1 hP _ g0 rfl 1 (by decide) (hts _ q113) (fun _ h9 => h9) rfl dX1_atLeast_5 ?_
  refine lv_iload_n hx hb dX1_atLeast_8 rfl (lv_at hl 1 rfl) ?_
  refine lv_iconst (v := 3) hx hb dX1_atLeast_9 (by decide) ?_
  refine lv_iand hx hb dX1_atLeast_10 ?_
  refine wr_topi (nI kp) (ekp) ?_
  refine wr_aald hx hb hK hP g1 hkp (by decide) rfl dX1_atLeast_11 ?_
  refine lv_aload_n hx hb dX1_atLeast_12 rfl (lv_at hl 0 rfl) ?_
  refine va_get (D := D) (ci := 0) (v := .ref hf) (C := RX1) (T := TX1) (N := 3) hx hb hts in_X1 hown hK.1 hP _ g0 rfl 1 (by decide) (hts _ q113) (fun _ h9 => h9) rfl dX1_atLeast_13 ?_
  refine lv_iload_n hx hb dX1_atLeast_16 rfl (lv_at hl 2 rfl) ?_
  refine lv_iconst (v := 3) hx hb dX1_atLeast_17 (by decide) ?_
  refine lv_iand hx hb dX1_atLeast_18 ?_
  refine wr_topi (nI kq) (ekq) ?_
  refine wr_aald hx hb hK hP g1 hkq (by decide) rfl dX1_atLeast_19 ?_
  refine wr_calli0 hD hS hA (va_runS (As := [.int (nI n), .ref (hr kp), .ref (hr kq)]) (rest := []) ⟨hx, hb, hml, hown, hts⟩ (m_gte l D dI dF ws s.heap.size n (o + 2 + kp) (o + 2 + kq) (hr kp) (hr kq) n n (R kp) (R kq) (g2 kp hkp) (g2 kq hkq) (Nat.le_refl n) (Nat.le_refl n) hB hB) (va_cwS 3 hts (lw_S q88 q89 q2 q90) rfl rfl rfl (by decide +kernel) ⟨Nat.le_of_ble_eq_true rfl, Nat.le_of_ble_eq_true rfl⟩) (wr_preS hP hK hD) rfl rfl hl.1 rfl (lv_room (Nat.le_of_ble_eq_true rfl)) dX1_atLeast_20 ⟨Nat.le_of_ble_eq_true rfl, Nat.le_of_ble_eq_true rfl⟩) (fun r u H locs hp hP hD hS => ?_)
  exact wr_zret () hx hb hr_ hlocks (wf_nb hp) hP hD hS hp (Nat.zero_le _) (Nat.zero_le _) dX1_atLeast_23

set_option maxHeartbeats 4000000 in
set_option maxRecDepth 100000 in
/-- WholeFile.put -/
theorem f_put (l : Launch) (D : va_G) (dI dF : ClassId) (ws : va_W) (sz : Nat) (o h n : Nat) (R : Nat → Nat → Int32) (w : Nat → Int32) (hwf : wf_at dI dF ws o h n R w) (hn1 : 1 ≤ n) (hn2 : n ≤ 16) (r : Int32) (k : Nat) (hk : k < 4) (ek : r &&& 3 = nI k) (at_ : Int32) (q : Nat) (hq : q < 16) (eq : at_ &&& 15 = nI q) (a b c_ : Int32) : Met l yX1_put (ws_ yX1_put cX1_put 8 none) wr_r2 (wr_Pc D dI dF [.ref h, .int r, .int at_, .int a, .int b, .int c_] ws sz) (va_Qv (fun (u : va_W) => wf_new dI dF ws u o h n (va_up R k (upd (upd (upd (R k) (q % n) a) ((q % n + 1) % n) b) ((q % n + 2) % n) c_)) w) (fun u t => wr_B D (va_A ws sz) u t) (va_A ws sz)) 0 0 (va_A ws sz) := by
  refine Met.ofW (cc := cX1_put) (maxL := 8) (ret := none) (by decide) rfl ?_
  intro p e s m args below meth c s₁ B hml hv
  obtain ⟨rfl, hsz, hP, hK, hD0⟩ := hv
  have hx := B.exec
  have hb := B.bytes
  have hr_ := B.returns
  have hts := atoms_spec (ws := ws_ yX1_put cX1_put 8 none) B.pre
  have hts : ∀ w ∈ lw_all, w.before _ s = true := fun w h => hts w (List.mem_cons_of_mem _ h)
  have hown : s.vm.findClass RX1 = some m.cls := findClass_of_methodNamed B.named
  have hlocks := B.notSynchronized
  subst hsz
  have hD := hD0.self (sz := s.heap.size)
  generalize hAe : va_A ws s.heap.size = A at hD ⊢
  have hA : ∀ q : Nat, s.heap.size ≤ q → A q := fun q h => by rw [← hAe]; exact Or.inr h
  have hS : va_S A s.heap s.heap [] := va_S.rf
  have hl := lv_entry ([.ref h, .int r, .int at_, .int a, .int b, .int c_]) (n := 8) (Nat.le_of_ble_eq_true rfl)
  rw [lg_entry_eq]
  generalize (lg_sl ([.ref h, .int r, .int at_, .int a, .int b, .int c_]) ++ List.replicate (8 - (lg_sl ([.ref h, .int r, .int at_, .int a, .int b, .int c_])).length) Slot.unset).toArray = ls at hl ⊢
  have hl : lv_has ls 8 [(0, .ref h), (1, .int r), (2, .int at_), (3, .int a), (4, .int b), (5, .int c_)] := hl
  obtain ⟨hf, hw, hr, g0, g1, g2, g3⟩ := hwf
  have hB : n < 2 ^ 31 := by omega
  have hm : q % n < n := Nat.mod_lt _ (by omega)
  refine lv_iload_n hx hb dX1_put_0 rfl (lv_at hl 2 rfl) ?_
  refine lv_bipush (v := 15) hx hb dX1_put_1 (by decide) ?_
  refine lv_iand hx hb dX1_put_3 ?_
  refine wr_topi (nI q) (eq) ?_
  refine lv_aload_n hx hb dX1_put_4 rfl (lv_at hl 0 rfl) ?_
  refine va_get (D := D) (ci := 0) (v := .int (nI n)) (C := RX1) (T := TX1) (N := 3) hx hb hts in_X1 hown hK.1 hP _ g0 rfl 0 (by decide) (hts _ q112) (fun _ h9 => h9) rfl dX1_put_5 ?_
  refine lv_irem hx hb dX1_put_8 (nI_ne0 (by omega) hB) ?_
  refine wr_topi (nI (q % n)) (pk_rem (by omega) (by omega) hB) ?_
  refine lv_istore (lv' := [(6, .int (nI (q % n))), (0, .ref h), (1, .int r), (2, .int at_), (3, .int a), (4, .int b), (5, .int c_)]) hx hb dX1_put_9 hl (by decide) rfl (fun ls hl => ?_)
  refine lv_aload_n hx hb dX1_put_11 rfl (lv_at hl 1 rfl) ?_
  refine va_get (D := D) (ci := 0) (v := .ref hf) (C := RX1) (T := TX1) (N := 3) hx hb hts in_X1 hown hK.1 hP _ g0 rfl 1 (by decide) (hts _ q113) (fun _ h9 => h9) rfl dX1_put_12 ?_
  refine lv_iload_n hx hb dX1_put_15 rfl (lv_at hl 2 rfl) ?_
  refine lv_iconst (v := 3) hx hb dX1_put_16 (by decide) ?_
  refine lv_iand hx hb dX1_put_17 ?_
  refine wr_topi (nI k) (ek) ?_
  refine wr_aald hx hb hK hP g1 hk (by decide) rfl dX1_put_18 ?_
  refine lv_astore (lv' := [(7, .ref (hr k)), (6, .int (nI (q % n))), (0, .ref h), (1, .int r), (2, .int at_), (3, .int a), (4, .int b), (5, .int c_)]) hx hb dX1_put_19 hl (by decide) rfl (fun ls hl => ?_)
  refine lv_aload hx hb dX1_put_21 (lv_at hl 0 rfl) ?_
  refine lv_iload hx hb dX1_put_23 (lv_at hl 1 rfl) ?_
  refine lv_iload_n hx hb dX1_put_25 rfl (lv_at hl 5 rfl) ?_
  refine wr_iast hx hb hK hP hD hS (g2 k hk) (hm) (hB) ((ws.set (o + 2 + k) (wr_i dI (hr k) n (upd (R k) (q % n) a)))) (rfl) dX1_put_26 (fun H locs hP hD hS => ?_)
  have g0a : (ws.set (o + 2 + k) (wr_i dI (hr k) n (upd (R k) (q % n) a)))[o]? = some (h, .inr (0, [.int (nI n), .ref hf, .ref hw])) := (wr_set_ne (by omega)).trans g0
  refine lv_aload hx hb dX1_put_27 (lv_at hl 0 rfl) ?_
  refine lv_iload hx hb dX1_put_29 (lv_at hl 1 rfl) ?_
  refine lv_iconst (v := nI 1) hx hb dX1_put_31 (by decide) ?_
  refine lv_iadd hx hb dX1_put_32 ?_
  refine wr_topi (nI (q % n + 1)) (nI_add _ _) ?_
  refine lv_aload_n hx hb dX1_put_33 rfl (lv_at hl 2 rfl) ?_
  refine va_get (D := D) (ci := 0) (v := .int (nI n)) (C := RX1) (T := TX1) (N := 3) hx hb hts in_X1 hown hK.1 hP _ g0a rfl 0 (by decide) (hts _ q112) (fun _ h9 => h9) rfl dX1_put_34 ?_
  refine lv_irem hx hb dX1_put_37 (nI_ne0 (by omega) hB) ?_
  refine wr_topi (nI ((q % n + 1) % n)) (pk_rem (by omega) (by omega) hB) ?_
  refine lv_iload hx hb dX1_put_38 (lv_at hl 6 rfl) ?_
  refine wr_iast hx hb hK hP hD hS (wr_set_at (g2 k hk)) (Nat.mod_lt _ (by omega)) (hB) ((ws.set (o + 2 + k) (wr_i dI (hr k) n (upd (upd (R k) (q % n) a) ((q % n + 1) % n) b)))) (wr_set_set) dX1_put_40 (fun H locs hP hD hS => ?_)
  have g0b : (ws.set (o + 2 + k) (wr_i dI (hr k) n (upd (upd (R k) (q % n) a) ((q % n + 1) % n) b)))[o]? = some (h, .inr (0, [.int (nI n), .ref hf, .ref hw])) := (wr_set_ne (by omega)).trans g0
  refine lv_aload hx hb dX1_put_41 (lv_at hl 0 rfl) ?_
  refine lv_iload hx hb dX1_put_43 (lv_at hl 1 rfl) ?_
  refine lv_iconst (v := nI 2) hx hb dX1_put_45 (by decide) ?_
  refine lv_iadd hx hb dX1_put_46 ?_
  refine wr_topi (nI (q % n + 2)) (nI_add _ _) ?_
  refine lv_aload_n hx hb dX1_put_47 rfl (lv_at hl 2 rfl) ?_
  refine va_get (D := D) (ci := 0) (v := .int (nI n)) (C := RX1) (T := TX1) (N := 3) hx hb hts in_X1 hown hK.1 hP _ g0b rfl 0 (by decide) (hts _ q112) (fun _ h9 => h9) rfl dX1_put_48 ?_
  refine lv_irem hx hb dX1_put_51 (nI_ne0 (by omega) hB) ?_
  refine wr_topi (nI ((q % n + 2) % n)) (pk_rem (by omega) (by omega) hB) ?_
  refine lv_iload hx hb dX1_put_52 (lv_at hl 7 rfl) ?_
  refine wr_iast hx hb hK hP hD hS (wr_set_at (g2 k hk)) (Nat.mod_lt _ (by omega)) (hB) ((ws.set (o + 2 + k) (wr_i dI (hr k) n (upd (upd (upd (R k) (q % n) a) ((q % n + 1) % n) b) ((q % n + 2) % n) c_)))) (wr_set_set) dX1_put_54 (fun H locs hP hD hS => ?_)
  exact wr_vret _ hx hb hr_ hlocks hP hD hS (wf_setrow g0 g1 g2 g3 hk _) (Nat.zero_le _) (Nat.zero_le _) dX1_put_55

set_option maxHeartbeats 4000000 in
set_option maxRecDepth 100000 in
/-- WholeFile.half -/
theorem f_half (l : Launch) (D : va_G) (dI dF : ClassId) (ws : va_W) (sz : Nat) (o h n : Nat) (R : Nat → Nat → Int32) (w : Nat → Int32) (hwf : wf_at dI dF ws o h n R w) (hn1 : 1 ≤ n) (hn2 : n ≤ 16) (r : Int32) (k : Nat) (hk : k < 4) (ek : r &&& 3 = nI k) (hi_ : Int32) (b : Nat) (hb1 : b ≤ 1) (eb : hi_ &&& 1 = nI b) : Met l yX1_half (ws_ yX1_half cX1_half 5 none) wr_r2 (wr_Pc D dI dF [.ref h, .int r, .int hi_] ws sz) (va_Qv (fun (u : va_W) => wf_new dI dF ws u o h n (va_up R k (wr_f (fun j => w (b * n + j)) (R k) n)) w) (fun u t => wr_B D (va_A ws sz) u t) (va_A ws sz)) 0 0 (va_A ws sz) := by
  refine Met.ofW (cc := cX1_half) (maxL := 5) (ret := none) (by decide) rfl ?_
  intro p e s m args below meth c s₁ B hml hv
  obtain ⟨rfl, hsz, hP, hK, hD0⟩ := hv
  have hx := B.exec
  have hb := B.bytes
  have hr_ := B.returns
  have hts := atoms_spec (ws := ws_ yX1_half cX1_half 5 none) B.pre
  have hts : ∀ w ∈ lw_all, w.before _ s = true := fun w h => hts w (List.mem_cons_of_mem _ h)
  have hown : s.vm.findClass RX1 = some m.cls := findClass_of_methodNamed B.named
  have hlocks := B.notSynchronized
  subst hsz
  have hD := hD0.self (sz := s.heap.size)
  generalize hAe : va_A ws s.heap.size = A at hD ⊢
  have hA : ∀ q : Nat, s.heap.size ≤ q → A q := fun q h => by rw [← hAe]; exact Or.inr h
  have hS : va_S A s.heap s.heap [] := va_S.rf
  have hl := lv_entry ([.ref h, .int r, .int hi_]) (n := 5) (Nat.le_of_ble_eq_true rfl)
  rw [lg_entry_eq]
  generalize (lg_sl ([.ref h, .int r, .int hi_]) ++ List.replicate (5 - (lg_sl ([.ref h, .int r, .int hi_])).length) Slot.unset).toArray = ls at hl ⊢
  have hl : lv_has ls 5 [(0, .ref h), (1, .int r), (2, .int hi_)] := hl
  obtain ⟨hf, hw, hr, g0, g1, g2, g3⟩ := hwf
  have hB : n < 2 ^ 31 := by omega
  have hbn : b * n ≤ n := by have h8 := Nat.mul_le_mul_right n hb1; omega
  refine lv_aload_n hx hb dX1_half_0 rfl (lv_at hl 0 rfl) ?_
  refine va_get (D := D) (ci := 0) (v := .ref hf) (C := RX1) (T := TX1) (N := 3) hx hb hts in_X1 hown hK.1 hP _ g0 rfl 1 (by decide) (hts _ q113) (fun _ h9 => h9) rfl dX1_half_1 ?_
  refine lv_iload_n hx hb dX1_half_4 rfl (lv_at hl 1 rfl) ?_
  refine lv_iconst (v := 3) hx hb dX1_half_5 (by decide) ?_
  refine lv_iand hx hb dX1_half_6 ?_
  refine wr_topi (nI k) (ek) ?_
  refine wr_aald hx hb hK hP g1 hk (by decide) rfl dX1_half_7 ?_
  refine lv_astore_n (lv' := [(3, .ref (hr k)), (0, .ref h), (1, .int r), (2, .int hi_)]) hx hb dX1_half_8 rfl hl (by decide) rfl (fun ls hl => ?_)
  refine lv_iconst (v := nI 0) hx hb dX1_half_9 (by decide) ?_
  refine lv_istore (lv' := [(4, .int (nI 0)), (3, .ref (hr k)), (0, .ref h), (1, .int r), (2, .int hi_)]) hx hb dX1_half_10 hl (by decide) rfl (fun ls hl => ?_)
  have loop : ∀ (kk i : Nat) (H : Heap) (locs : List Loc) (ls : Array Slot), i + kk = n → va_P D vwCl (ws.set (o + 2 + k) (wr_i dI (hr k) n (wr_f (fun j => w (b * n + j)) (R k) i))) H → va_D A (ws.set (o + 2 + k) (wr_i dI (hr k) n (wr_f (fun j => w (b * n + j)) (R k) i))) → va_S A s.heap H locs → lv_has ls 5 [(4, .int (nI i)), (3, .ref (hr k)), (0, .ref h), (2, .int hi_)] → W p l e (headSpec (ws_ yX1_half cX1_half 5 none) wr_r2).room s m (([.ref h, .int r, .int hi_] : List Value).toArray) below meth c H locs 0 0 (MQ below (va_Qv (fun (u : va_W) => wf_new dI dF ws u o h n (va_up R k (wr_f (fun j => w (b * n + j)) (R k) n)) w) (fun u t => wr_B D A u t) A) (([.ref h, .int r, .int hi_] : List Value).toArray) s 0 0 A) (F0 m 12 ls []) := by
    intro kk
    induction kk with
    | zero =>
      intro i H locs ls hik hP hD hS hl
      have hin : i = n := by omega
      rw [hin] at hP hD hl
      have g0a : (ws.set (o + 2 + k) (wr_i dI (hr k) n (wr_f (fun j => w (b * n + j)) (R k) n)))[o]? = some (h, .inr (0, [.int (nI n), .ref hf, .ref hw])) := (wr_set_ne (by omega)).trans g0
      refine lv_iload hx hb dX1_half_12 (lv_at hl 0 rfl) ?_
      refine lv_aload_n hx hb dX1_half_14 rfl (lv_at hl 2 rfl) ?_
      refine va_get (D := D) (ci := 0) (v := .int (nI n)) (C := RX1) (T := TX1) (N := 3) hx hb hts in_X1 hown hK.1 hP _ g0a rfl 0 (by decide) (hts _ q112) (fun _ h9 => h9) rfl dX1_half_15 ?_
      refine lv_icmp_ge (tgt := 47) hx hb dX1_half_18 (by decide) (fun _ => ?_) (fun q_ => absurd (nI_le (Nat.le_refl n) hB) q_)
      exact wr_vret _ hx hb hr_ hlocks hP hD hS (wf_setrow g0 g1 g2 g3 hk _) (Nat.zero_le _) (Nat.zero_le _) dX1_half_47
    | succ kk ih =>
      intro i H locs ls hik hP hD hS hl
      have hi : i < n := by omega
      have g0a : (ws.set (o + 2 + k) (wr_i dI (hr k) n (wr_f (fun j => w (b * n + j)) (R k) i)))[o]? = some (h, .inr (0, [.int (nI n), .ref hf, .ref hw])) := (wr_set_ne (by omega)).trans g0
      refine lv_iload hx hb dX1_half_12 (lv_at hl 0 rfl) ?_
      refine lv_aload_n hx hb dX1_half_14 rfl (lv_at hl 2 rfl) ?_
      refine va_get (D := D) (ci := 0) (v := .int (nI n)) (C := RX1) (T := TX1) (N := 3) hx hb hts in_X1 hown hK.1 hP _ g0a rfl 0 (by decide) (hts _ q112) (fun _ h9 => h9) rfl dX1_half_15 ?_
      refine lv_icmp_ge (tgt := 47) hx hb dX1_half_18 (by decide) (fun q_ => absurd q_ (nI_ge hi hB)) (fun _ => ?_)
      refine lv_aload_n hx hb dX1_half_21 rfl (lv_at hl 1 rfl) ?_
      refine lv_iload hx hb dX1_half_22 (lv_at hl 0 rfl) ?_
      refine lv_aload_n hx hb dX1_half_24 rfl (lv_at hl 2 rfl) ?_
      refine va_get (D := D) (ci := 0) (v := .ref hw) (C := RX1) (T := TX1) (N := 3) hx hb hts in_X1 hown hK.1 hP _ g0a rfl 2 (by decide) (hts _ q114) (fun _ h9 => h9) rfl dX1_half_25 ?_
      refine lv_iload_n hx hb dX1_half_28 rfl (lv_at hl 3 rfl) ?_
      refine lv_iconst (v := 1) hx hb dX1_half_29 (by decide) ?_
      refine lv_iand hx hb dX1_half_30 ?_
      refine wr_topi (nI b) (eb) ?_
      refine lv_aload_n hx hb dX1_half_31 rfl (lv_at hl 2 rfl) ?_
      refine va_get (D := D) (ci := 0) (v := .int (nI n)) (C := RX1) (T := TX1) (N := 3) hx hb hts in_X1 hown hK.1 hP _ g0a rfl 0 (by decide) (hts _ q112) (fun _ h9 => h9) rfl dX1_half_32 ?_
      refine lv_imul hx hb dX1_half_35 ?_
      refine wr_topi (nI (b * n)) (pk_mul _ _) ?_
      refine lv_iload hx hb dX1_half_36 (lv_at hl 0 rfl) ?_
      refine lv_iadd hx hb dX1_half_38 ?_
      refine wr_topi (nI (b * n + i)) (nI_add _ _) ?_
      refine wr_iald hx hb hK hP ((wr_set_ne (by omega)).trans g3) (by omega) (by omega) dX1_half_39 ?_
      refine wr_iast hx hb hK hP hD hS (wr_set_at (g2 k hk)) (hi) (hB) ((ws.set (o + 2 + k) (wr_i dI (hr k) n (wr_f (fun j => w (b * n + j)) (R k) (i + 1))))) (by rw [wr_set_set]; exact congrArg (fun f => ws.set (o + 2 + k) (wr_i dI (hr k) n f)) (wr_fu (fun j => w (b * n + j)) (R k) i)) dX1_half_40 (fun H locs hP hD hS => ?_)
      refine lv_iinc (v := nI (i + 1)) (lv' := [(4, .int (nI (i + 1))), (3, .ref (hr k)), (0, .ref h), (2, .int hi_)]) hx hb dX1_half_41 hl (k := 0) rfl (wn_inc i) (by decide) rfl (fun ls hl => ?_)
      refine lv_goto (tgt := 12) hx hb dX1_half_44 (by decide) ?_
      exact ih (i + 1) H locs ls (by omega) hP hD hS (lv_sub hl [0, 1, 2, 3] rfl)
  have e0 : (ws.set (o + 2 + k) (wr_i dI (hr k) n (wr_f (fun j => w (b * n + j)) (R k) 0))) = ws := by rw [wr_f0]; exact wr_set_self (g2 k hk)
  exact loop n 0 s.heap [] ls (by omega) (by rw [e0]; exact hP) (by rw [e0]; exact hD) hS (lv_sub hl [0, 1, 2, 4] rfl)

set_option maxHeartbeats 4000000 in
set_option maxRecDepth 100000 in
/-- WholeFile.byWord -/
theorem f_byWord (l : Launch) (D : va_G) (dI dF : ClassId) (ws : va_W) (sz : Nat) (o h n : Nat) (R : Nat → Nat → Int32) (w : Nat → Int32) (hwf : wf_at dI dF ws o h n R w) (hn1 : 1 ≤ n) (hn2 : n ≤ 16) (r : Int32) (kr : Nat) (hkr : kr < 4) (ekr : r &&& 3 = nI kr) (wd : Int32) (p_ : Int32) (kp : Nat) (hkp : kp < 4) (ekp : p_ &&& 3 = nI kp) : Met l yX1_byWord (ws_ yX1_byWord cX1_byWord 6 (some .int)) (wf_i 1 16) (wr_Pc D dI dF [.ref h, .int r, .int wd, .int p_] ws sz) (va_Qi (fun (r : Int32) (u : va_W) => r = nI (wn_c (wn_gM (wn_w wd) (R kp)) n) ∧ wf_new dI dF ws u o h n (va_up R kr (wr_f (wn_cw (wn_gM (wn_w wd) (R kp))) (fun _ => 0) n)) w) (fun u t => wr_B D (va_A ws sz) u t) (va_A ws sz)) 1 16 (va_A ws sz) := by
  refine Met.ofW (cc := cX1_byWord) (maxL := 6) (ret := (some .int)) (by decide) rfl ?_
  intro p e s m args below meth c s₁ B hml hv
  obtain ⟨rfl, hsz, hP, hK, hD0⟩ := hv
  have hx := B.exec
  have hb := B.bytes
  have hr_ := B.returns
  have hts := atoms_spec (ws := ws_ yX1_byWord cX1_byWord 6 (some .int)) B.pre
  have hts : ∀ w ∈ lw_all, w.before _ s = true := fun w h => hts w (List.mem_cons_of_mem _ h)
  have hown : s.vm.findClass RX1 = some m.cls := findClass_of_methodNamed B.named
  have hlocks := B.notSynchronized
  subst hsz
  have hD := hD0.self (sz := s.heap.size)
  generalize hAe : va_A ws s.heap.size = A at hD ⊢
  have hA : ∀ q : Nat, s.heap.size ≤ q → A q := fun q h => by rw [← hAe]; exact Or.inr h
  have hS : va_S A s.heap s.heap [] := va_S.rf
  have hl := lv_entry ([.ref h, .int r, .int wd, .int p_]) (n := 6) (Nat.le_of_ble_eq_true rfl)
  rw [lg_entry_eq]
  generalize (lg_sl ([.ref h, .int r, .int wd, .int p_]) ++ List.replicate (6 - (lg_sl ([.ref h, .int r, .int wd, .int p_])).length) Slot.unset).toArray = ls at hl ⊢
  have hl : lv_has ls 6 [(0, .ref h), (1, .int r), (2, .int wd), (3, .int p_)] := hl
  obtain ⟨hf, hw, hr, g0, g1, g2, g3⟩ := hwf
  have hB : n < 2 ^ 31 := by omega
  have hlen : o + 7 ≤ ws.length := by have h8 := (List.getElem?_eq_some_iff.mp g3).1; omega
  refine lv_aload_n hx hb dX1_byWord_0 rfl (lv_at hl 0 rfl) ?_
  refine va_get (D := D) (ci := 0) (v := .int (nI n)) (C := RX1) (T := TX1) (N := 3) hx hb hts in_X1 hown hK.1 hP _ g0 rfl 0 (by decide) (hts _ q112) (fun _ h9 => h9) rfl dX1_byWord_1 ?_
  refine wr_newa hx hb (hts _ q122) hK hP hD hS hA (k := n) (by omega) (Nat.le_of_ble_eq_true rfl) (by show 0 + n ≤ 16; omega) dX1_byWord_4 (fun z H hP hD hS => ?_)
  refine W.widen (k := 1) (n := 16) (Nat.le_refl _) (by omega) ?_
  have ga : ∀ (j : Nat) (c : Nat × va_E), ws[j]? = some c → (ws ++ [wr_i dI z n (fun _ => 0)])[j]? = some c := fun j c hc => (List.getElem?_append_left (List.getElem?_eq_some_iff.mp hc).1).trans hc
  have gz : (ws ++ [wr_i dI z n (fun _ => 0)])[ws.length]? = some (wr_i dI z n (fun _ => 0)) := by rw [List.getElem?_append_right (Nat.le_refl _), Nat.sub_self]; rfl
  refine lv_astore (lv' := [(4, .ref z), (0, .ref h), (1, .int r), (2, .int wd), (3, .int p_)]) hx hb dX1_byWord_6 hl (by decide) rfl (fun ls hl => ?_)
  refine lv_aload_n hx hb dX1_byWord_8 rfl (lv_at hl 1 rfl) ?_
  refine va_get (D := D) (ci := 0) (v := .int (nI n)) (C := RX1) (T := TX1) (N := 3) hx hb hts in_X1 hown hK.1 hP _ (ga _ _ g0) rfl 0 (by decide) (hts _ q112) (fun _ h9 => h9) rfl dX1_byWord_9 ?_
  refine lv_iload_n hx hb dX1_byWord_12 rfl (lv_at hl 3 rfl) ?_
  refine lv_aload_n hx hb dX1_byWord_13 rfl (lv_at hl 1 rfl) ?_
  refine va_get (D := D) (ci := 0) (v := .ref hf) (C := RX1) (T := TX1) (N := 3) hx hb hts in_X1 hown hK.1 hP _ (ga _ _ g0) rfl 1 (by decide) (hts _ q113) (fun _ h9 => h9) rfl dX1_byWord_14 ?_
  refine lv_iload_n hx hb dX1_byWord_17 rfl (lv_at hl 4 rfl) ?_
  refine lv_iconst (v := 3) hx hb dX1_byWord_18 (by decide) ?_
  refine lv_iand hx hb dX1_byWord_19 ?_
  refine wr_topi (nI kp) (ekp) ?_
  refine wr_aald hx hb hK hP (ga _ _ g1) hkp (by decide) rfl dX1_byWord_20 ?_
  refine lv_aload hx hb dX1_byWord_21 (lv_at hl 0 rfl) ?_
  refine wr_calli0 hD hS hA (va_runS (As := [.int (nI n), .int wd, .ref (hr kp), .ref z]) (rest := []) ⟨hx, hb, hml, hown, hts⟩ (m_mulWord l D dI dF (ws ++ [wr_i dI z n (fun _ => 0)]) H.size n (o + 2 + kp) ws.length (hr kp) z n n wd (R kp) (fun _ => 0) (ga _ _ (g2 kp hkp)) gz hn1 (Nat.le_refl n) (Nat.le_refl n) hB hB) (va_cwS 4 hts (lw_S q149 q30 q2 q31) rfl rfl rfl (by decide +kernel) ⟨Nat.le_of_ble_eq_true rfl, Nat.le_of_ble_eq_true rfl⟩) (wr_preS hP hK hD) rfl rfl hl.1 rfl (lv_room (Nat.le_of_ble_eq_true rfl)) dX1_byWord_23 ⟨Nat.le_of_ble_eq_true rfl, Nat.le_of_ble_eq_true rfl⟩) (fun rv u H locs hp hP hD hS => ?_)
  refine lv_istore (lv' := [(5, .int rv), (4, .ref z), (0, .ref h), (1, .int r), (2, .int wd), (3, .int p_)]) hx hb dX1_byWord_26 hl (by decide) rfl (fun ls hl => ?_)
  have gb : ∀ (j : Nat) (c : Nat × va_E), ws[j]? = some c → ((ws ++ [wr_i dI z n (fun _ => 0)]).set ws.length (wr_i dI z n (wr_f (wn_cw (wn_gM (wn_w wd) (R kp))) (fun _ => 0) n)))[j]? = some c := fun j c hc => (wr_set_ne (Nat.ne_of_lt (List.getElem?_eq_some_iff.mp hc).1)).trans (ga j c hc)
  refine lv_aload_n hx hb dX1_byWord_28 rfl (lv_at hl 2 rfl) ?_
  refine va_get (D := D) (ci := 0) (v := .ref hf) (C := RX1) (T := TX1) (N := 3) hx hb hts in_X1 hown hK.1 hP _ (gb _ _ g0) rfl 1 (by decide) (hts _ q113) (fun _ h9 => h9) rfl dX1_byWord_29 ?_
  refine lv_iload_n hx hb dX1_byWord_32 rfl (lv_at hl 3 rfl) ?_
  refine lv_iconst (v := 3) hx hb dX1_byWord_33 (by decide) ?_
  refine lv_iand hx hb dX1_byWord_34 ?_
  refine wr_topi (nI kr) (ekr) ?_
  refine lv_aload hx hb dX1_byWord_35 (lv_at hl 1 rfl) ?_
  refine wr_aast hx hb hK hP hD hS (gb _ _ g1) (wr_set_at gz) hkr (by decide) _ rfl dX1_byWord_37 (fun H locs hP hD hS => ?_)
  refine lv_iload hx hb dX1_byWord_38 (lv_at hl 0 rfl) ?_
  obtain ⟨hP, hD⟩ := wf_rowP (k := kr) (by omega) hP hD
  exact wr_iret _ hx hb hr_ hlocks hP hD hS ⟨hp, wf_row_new g0 g1 g2 g3 hkr _⟩ (Nat.le_refl _) (Nat.le_refl _) dX1_byWord_40

set_option maxHeartbeats 4000000 in
set_option maxRecDepth 100000 in
/-- WholeFile(): four words, all nought -/
theorem f_init (l : Launch) (D : va_G) (dI dF : ClassId) (ws : va_W) (sz : Nat) (o h : Nat) (hc : ws[o]? = some (h, .inr (0, [.int 0, .null, .null]))) (hl0 : o + 1 = ws.length) : Met l yX1_init (ws_ yX1_init cX1_init 1 none) (wf_i 6 28) (wr_Pc D dI dF [.ref h] ws sz) (va_Qv (fun (u : va_W) => u.length = ws.length + 6 ∧ (∀ j, j < o → u[j]? = ws[j]?) ∧ wf_at dI dF u o h 4 (fun _ _ => 0) (fun _ => 0)) (fun u t => wr_B D (va_A ws sz) u t) (va_A ws sz)) 6 28 (va_A ws sz) := by
  refine Met.ofW (cc := cX1_init) (maxL := 1) (ret := none) (by decide) rfl ?_
  intro p e s m args below meth c s₁ B hml hv
  obtain ⟨rfl, hsz, hP, hK, hD0⟩ := hv
  have hx := B.exec
  have hb := B.bytes
  have hr := B.returns
  have hts := atoms_spec (ws := ws_ yX1_init cX1_init 1 none) B.pre
  have hts : ∀ w ∈ lw_all, w.before _ s = true := fun w h => hts w (List.mem_cons_of_mem _ h)
  have hown : s.vm.findClass RX1 = some m.cls := findClass_of_methodNamed B.named
  have hlocks := B.notSynchronized
  subst hsz
  have hD := hD0.self (sz := s.heap.size)
  generalize hAe : va_A ws s.heap.size = A at hD ⊢
  have hA : ∀ q : Nat, s.heap.size ≤ q → A q := fun q h => by rw [← hAe]; exact Or.inr h
  have hS : va_S A s.heap s.heap [] := va_S.rf
  have hl := lv_entry ([.ref h]) (n := 1) (Nat.le_of_ble_eq_true rfl)
  rw [lg_entry_eq]
  generalize (lg_sl ([.ref h]) ++ List.replicate (1 - (lg_sl ([.ref h])).length) Slot.unset).toArray = ls at hl ⊢
  have hl : lv_has ls 1 [(0, .ref h)] := hl
  refine lv_aload_n hx hb dX1_init_0 rfl (lv_at hl 0 rfl) ?_
  refine W.objInit hx hb hown (hts _ q107) (hts _ q108) (hts _ q109) rfl (by rw [hml]; exact hl.1) rfl dX1_init_1 (Nat.le_of_ble_eq_true rfl) (Nat.le_of_ble_eq_true rfl) ?_
  refine W.eq (g2 := F0 m 4 ls []) rfl ?_
  refine lv_aload_n hx hb dX1_init_4 rfl (lv_at hl 0 rfl) ?_
  refine lv_iconst (v := nI 4) hx hb dX1_init_5 (by decide) ?_
  refine va_put (D := D) (ci := 0) (v := .int (nI 4)) (ty := .int) (C := RX1) (T := TX1) (N := 3) hx hb hts in_X1 tyX1 tyX1_ok nmX1 hown hK.1 hP hD hS _ hc rfl 0 (by decide) (hts _ q112) (fun _ h9 => h9) rfl (by decide +kernel) rfl rfl (Nat.le_of_ble_eq_true rfl) dX1_init_6 (fun H locs hP hD hS => ?_)
  have hP : va_P D vwCl (ws.set o (h, .inr (0, [.int (nI 4), .null, .null]))) H := hP
  have hD : va_D A (ws.set o (h, .inr (0, [.int (nI 4), .null, .null]))) := hD
  refine lv_aload_n hx hb dX1_init_9 rfl (lv_at hl 0 rfl) ?_
  refine lv_iconst (v := nI 4) hx hb dX1_init_10 (by decide) ?_
  refine lv_iconst (v := nI 4) hx hb dX1_init_11 (by decide) ?_
  refine wr_mnew hx hb hown (hts _ q110) (hts _ q122) hK hP hD hS hA (k := 4) (by omega) (Nat.le_of_ble_eq_true rfl) (by show 0 + (4 + 4 * 4) ≤ 28; omega) dX1_init_12 (fun q1 H hP hD hS => ?_)
  have hlo : o < (ws.set o (h, .inr (0, [.int (nI 4), .null, .null]))).length := by rw [List.length_set]; omega
  have ge : ((ws.set o (h, .inr (0, [.int (nI 4), .null, .null]))) ++ wr_four dI dF q1 4)[o]? = some (h, .inr (0, [.int (nI 4), .null, .null])) := (List.getElem?_append_left hlo).trans (wr_set_at hc)
  refine va_put (D := D) (ci := 0) (v := .ref q1) (ty := .array (.array .int)) (C := RX1) (T := TX1) (N := 3) hx hb hts in_X1 tyX1 tyX1_ok nmX1 hown hK.1 hP hD hS _ ge rfl 1 (by decide) (hts _ q113) (fun _ h9 => h9) rfl (by decide +kernel) rfl rfl (Nat.le_of_ble_eq_true rfl) dX1_init_16 (fun H locs hP hD hS => ?_)
  have hP : va_P D vwCl (((ws.set o (h, .inr (0, [.int (nI 4), .null, .null]))) ++ wr_four dI dF q1 4).set o (h, .inr (0, [.int (nI 4), .ref q1, .null]))) H := hP
  have hD : va_D A (((ws.set o (h, .inr (0, [.int (nI 4), .null, .null]))) ++ wr_four dI dF q1 4).set o (h, .inr (0, [.int (nI 4), .ref q1, .null]))) := hD
  refine lv_aload_n hx hb dX1_init_19 rfl (lv_at hl 0 rfl) ?_
  refine lv_bipush (v := nI (4 + 4)) hx hb dX1_init_20 (by decide) ?_
  refine wr_newa hx hb (hts _ q122) hK hP hD hS hA (k := 4 + 4) (by omega) (Nat.le_of_ble_eq_true rfl) (by show 0 + (4 + 4 * 4) + (4 + 4) ≤ 28; omega) dX1_init_22 (fun q2 H hP hD hS => ?_)
  have hlo2 : o < (((ws.set o (h, .inr (0, [.int (nI 4), .null, .null]))) ++ wr_four dI dF q1 4).set o (h, .inr (0, [.int (nI 4), .ref q1, .null]))).length := by rw [List.length_set, List.length_append]; omega
  have gw := (List.getElem?_append_left (l₂ := [wr_i dI q2 (4 + 4) (fun _ => 0)]) hlo2).trans (wr_set_at ge)
  refine va_put (D := D) (ci := 0) (v := .ref q2) (ty := .array .int) (C := RX1) (T := TX1) (N := 3) hx hb hts in_X1 tyX1 tyX1_ok nmX1 hown hK.1 hP hD hS _ gw rfl 2 (by decide) (hts _ q114) (fun _ h9 => h9) rfl (by decide +kernel) rfl rfl (Nat.le_of_ble_eq_true rfl) dX1_init_24 (fun H locs hP hD hS => ?_)
  have hP : va_P D vwCl (((((ws.set o (h, .inr (0, [.int (nI 4), .null, .null]))) ++ wr_four dI dF q1 4).set o (h, .inr (0, [.int (nI 4), .ref q1, .null]))) ++ [wr_i dI q2 (4 + 4) (fun _ => 0)]).set o (h, .inr (0, [.int (nI 4), .ref q1, .ref q2]))) H := hP
  have hD : va_D A (((((ws.set o (h, .inr (0, [.int (nI 4), .null, .null]))) ++ wr_four dI dF q1 4).set o (h, .inr (0, [.int (nI 4), .ref q1, .null]))) ++ [wr_i dI q2 (4 + 4) (fun _ => 0)]).set o (h, .inr (0, [.int (nI 4), .ref q1, .ref q2]))) := hD
  obtain ⟨p1, p2, -⟩ := wf_init_pos (four := wr_four dI dF q1 4) hl0 rfl (h, .inr (0, [.int (nI 4), .null, .null])) (h, .inr (0, [.int (nI 4), .ref q1, .null])) (h, .inr (0, [.int (nI 4), .ref q1, .ref q2])) (wr_i dI q2 (4 + 4) (fun _ => 0))
  exact wr_vret _ hx hb hr hlocks hP hD hS ⟨by rw [p1]; omega, p2, wf_init_at hl0 _ _⟩ (by decide) (by decide) dX1_init_27

set_option maxHeartbeats 4000000 in
set_option maxRecDepth 100000 in
/-- WholeFile.width: new rows, all nought -/
theorem f_width (l : Launch) (D : va_G) (dI dF : ClassId) (ws : va_W) (sz : Nat) (o h n : Nat) (R : Nat → Nat → Int32) (w : Nat → Int32) (hwf : wf_at dI dF ws o h n R w) (wd : Int32) (n2 : Nat) (hn2 : n2 = 1 + wn_w wd % 16) : Met l yX1_width (ws_ yX1_width cX1_width 2 none) (wf_i 6 100) (wr_Pc D dI dF [.ref h, .int wd] ws sz) (va_Qv (fun (u : va_W) => wf_new dI dF ws u o h n2 (fun _ _ => 0) (fun _ => 0)) (fun u t => wr_B D (va_A ws sz) u t) (va_A ws sz)) 6 100 (va_A ws sz) := by
  refine Met.ofW (cc := cX1_width) (maxL := 2) (ret := none) (by decide) rfl ?_
  intro p e s m args below meth c s₁ B hml hv
  obtain ⟨rfl, hsz, hP, hK, hD0⟩ := hv
  have hx := B.exec
  have hb := B.bytes
  have hr_ := B.returns
  have hts := atoms_spec (ws := ws_ yX1_width cX1_width 2 none) B.pre
  have hts : ∀ w ∈ lw_all, w.before _ s = true := fun w h => hts w (List.mem_cons_of_mem _ h)
  have hown : s.vm.findClass RX1 = some m.cls := findClass_of_methodNamed B.named
  have hlocks := B.notSynchronized
  subst hsz
  have hD := hD0.self (sz := s.heap.size)
  generalize hAe : va_A ws s.heap.size = A at hD ⊢
  have hA : ∀ q : Nat, s.heap.size ≤ q → A q := fun q h => by rw [← hAe]; exact Or.inr h
  have hS : va_S A s.heap s.heap [] := va_S.rf
  have hl := lv_entry ([.ref h, .int wd]) (n := 2) (Nat.le_of_ble_eq_true rfl)
  rw [lg_entry_eq]
  generalize (lg_sl ([.ref h, .int wd]) ++ List.replicate (2 - (lg_sl ([.ref h, .int wd])).length) Slot.unset).toArray = ls at hl ⊢
  have hl : lv_has ls 2 [(0, .ref h), (1, .int wd)] := hl
  have hlen := wf_len hwf
  obtain ⟨hf, hw, hr, g0, g1, g2, g3⟩ := hwf
  refine lv_aload_n hx hb dX1_width_0 rfl (lv_at hl 0 rfl) ?_
  refine lv_iconst (v := nI 1) hx hb dX1_width_1 (by decide) ?_
  refine lv_iload_n hx hb dX1_width_2 rfl (lv_at hl 1 rfl) ?_
  refine lv_bipush (v := 15) hx hb dX1_width_3 (by decide) ?_
  refine lv_iand hx hb dX1_width_5 ?_
  refine wr_topi (nI (wn_w wd % 16)) (wf_and15 wd) ?_
  refine lv_iadd hx hb dX1_width_6 ?_
  refine wr_topi (nI n2) (by rw [nI_add, hn2]) ?_
  refine va_put (D := D) (ci := 0) (v := .int (nI n2)) (ty := .int) (C := RX1) (T := TX1) (N := 3) hx hb hts in_X1 tyX1 tyX1_ok nmX1 hown hK.1 hP hD hS _ g0 rfl 0 (by decide) (hts _ q112) (fun _ h9 => h9) rfl (by decide +kernel) rfl rfl (Nat.le_of_ble_eq_true rfl) dX1_width_7 (fun H locs hP hD hS => ?_)
  have hn3 : n2 ≤ 16 := by omega
  have hP : va_P D vwCl (ws.set o (h, .inr (0, [.int (nI n2), .ref hf, .ref hw]))) H := hP
  have hD : va_D A (ws.set o (h, .inr (0, [.int (nI n2), .ref hf, .ref hw]))) := hD
  refine lv_aload_n hx hb dX1_width_10 rfl (lv_at hl 0 rfl) ?_
  refine lv_iconst (v := nI 4) hx hb dX1_width_11 (by decide) ?_
  refine lv_aload_n hx hb dX1_width_12 rfl (lv_at hl 0 rfl) ?_
  refine va_get (D := D) (ci := 0) (v := .int (nI n2)) (C := RX1) (T := TX1) (N := 3) hx hb hts in_X1 hown hK.1 hP _ (wr_set_at g0) rfl 0 (by decide) (hts _ q112) (fun _ h9 => h9) rfl dX1_width_13 ?_
  refine wr_mnew hx hb hown (hts _ q110) (hts _ q122) hK hP hD hS hA (k := n2) (by omega) (Nat.le_of_ble_eq_true rfl) (by show 0 + (4 + 4 * n2) ≤ 100; omega) dX1_width_16 (fun q1 H hP hD hS => ?_)
  have hlo : o < (ws.set o (h, .inr (0, [.int (nI n2), .ref hf, .ref hw]))).length := by rw [List.length_set]; omega
  have ge : ((ws.set o (h, .inr (0, [.int (nI n2), .ref hf, .ref hw]))) ++ wr_four dI dF q1 n2)[o]? = some (h, .inr (0, [.int (nI n2), .ref hf, .ref hw])) := (List.getElem?_append_left hlo).trans (wr_set_at g0)
  refine va_put (D := D) (ci := 0) (v := .ref q1) (ty := .array (.array .int)) (C := RX1) (T := TX1) (N := 3) hx hb hts in_X1 tyX1 tyX1_ok nmX1 hown hK.1 hP hD hS _ ge rfl 1 (by decide) (hts _ q113) (fun _ h9 => h9) rfl (by decide +kernel) rfl rfl (Nat.le_of_ble_eq_true rfl) dX1_width_20 (fun H locs hP hD hS => ?_)
  have hP : va_P D vwCl (((ws.set o (h, .inr (0, [.int (nI n2), .ref hf, .ref hw]))) ++ wr_four dI dF q1 n2).set o (h, .inr (0, [.int (nI n2), .ref q1, .ref hw]))) H := hP
  have hD : va_D A (((ws.set o (h, .inr (0, [.int (nI n2), .ref hf, .ref hw]))) ++ wr_four dI dF q1 n2).set o (h, .inr (0, [.int (nI n2), .ref q1, .ref hw]))) := hD
  refine lv_aload_n hx hb dX1_width_23 rfl (lv_at hl 0 rfl) ?_
  refine lv_iconst (v := nI 2) hx hb dX1_width_24 (by decide) ?_
  refine lv_aload_n hx hb dX1_width_25 rfl (lv_at hl 0 rfl) ?_
  refine va_get (D := D) (ci := 0) (v := .int (nI n2)) (C := RX1) (T := TX1) (N := 3) hx hb hts in_X1 hown hK.1 hP _ (wr_set_at ge) rfl 0 (by decide) (hts _ q112) (fun _ h9 => h9) rfl dX1_width_26 ?_
  refine lv_imul hx hb dX1_width_29 ?_
  refine wr_topi (nI (n2 + n2)) (by rw [pk_mul, show 2 * n2 = n2 + n2 by omega]) ?_
  refine wr_newa hx hb (hts _ q122) hK hP hD hS hA (k := n2 + n2) (by omega) (Nat.le_of_ble_eq_true rfl) (by show 0 + (4 + 4 * n2) + (n2 + n2) ≤ 100; omega) dX1_width_30 (fun q2 H hP hD hS => ?_)
  have hlo2 : o < (((ws.set o (h, .inr (0, [.int (nI n2), .ref hf, .ref hw]))) ++ wr_four dI dF q1 n2).set o (h, .inr (0, [.int (nI n2), .ref q1, .ref hw]))).length := by rw [List.length_set, List.length_append]; omega
  have gw := (List.getElem?_append_left (l₂ := [wr_i dI q2 (n2 + n2) (fun _ => 0)]) hlo2).trans (wr_set_at ge)
  refine va_put (D := D) (ci := 0) (v := .ref q2) (ty := .array .int) (C := RX1) (T := TX1) (N := 3) hx hb hts in_X1 tyX1 tyX1_ok nmX1 hown hK.1 hP hD hS _ gw rfl 2 (by decide) (hts _ q114) (fun _ h9 => h9) rfl (by decide +kernel) rfl rfl (Nat.le_of_ble_eq_true rfl) dX1_width_32 (fun H locs hP hD hS => ?_)
  have hP : va_P D vwCl (((((ws.set o (h, .inr (0, [.int (nI n2), .ref hf, .ref hw]))) ++ wr_four dI dF q1 n2).set o (h, .inr (0, [.int (nI n2), .ref q1, .ref hw]))) ++ [wr_i dI q2 (n2 + n2) (fun _ => 0)]).set o (h, .inr (0, [.int (nI n2), .ref q1, .ref q2]))) H := hP
  have hD : va_D A (((((ws.set o (h, .inr (0, [.int (nI n2), .ref hf, .ref hw]))) ++ wr_four dI dF q1 n2).set o (h, .inr (0, [.int (nI n2), .ref q1, .ref hw]))) ++ [wr_i dI q2 (n2 + n2) (fun _ => 0)]).set o (h, .inr (0, [.int (nI n2), .ref q1, .ref q2]))) := hD
  obtain ⟨hP, hD⟩ := wf_packP hlen hP hD
  exact wr_vret _ hx hb hr_ hlocks hP hD hS (wf_pack_new hlen) (by decide) (by omega) dX1_width_35
end
section
/-! WholeFileLaw: what its methods stand on -/
set_option maxRecDepth 100000
def lw_cl (L : Nat) (xs : Nat → Int32) (k : Nat) : Int32 := if k < L then xs k else 0
def lw_N (L : Nat) (xs : Nat → Int32) : Nat := 1 + wn_w (lw_cl L xs 0) % 16
def lw_T (L : Nat) (xs : Nat → Int32) (r j : Nat) : Int32 := lw_cl L xs (1 + 16 * r + j)
theorem lw_N_in {L n : Nat} {xs : Nat → Int32} (h : n = lw_N L xs) : 1 ≤ n ∧ n ≤ 16 := by
  unfold lw_N at h
  omega
theorem lw_and3 {r : Nat} (h : r < 4) : nI r &&& 3 = nI r := by rw [pk_andN (by omega) 2 (by decide), Nat.mod_eq_of_lt (by omega)]
theorem lw_and15 {r : Nat} (h : r < 16) : nI r &&& 15 = nI r := by rw [pk_andN (by omega) 4 (by decide), Nat.mod_eq_of_lt (by omega)]
theorem lw_and31 {r : Nat} (h : r < 32) : nI r &&& 31 = nI r := by rw [pk_andN (by omega) 5 (by decide), Nat.mod_eq_of_lt (by omega)]
theorem wf_preV {s : State} {H : Heap} {D : va_G} {dI dF : ClassId} {A : Nat → Prop} {ws : va_W} {o h n : Nat} {R : Nat → Nat → Int32} {w : Nat → Int32} {As : List Value} (he : wf_at dI dF ws o h n R w) (hP : va_P D vwCl ws H) (hK : wr_K D dI dF s) (hD : va_D A ws) : PreV s H RX1 h (wr_Pc D dI dF (Value.ref h :: As) ws H.size) As := by
  obtain ⟨hf, hw, hr, g0, -⟩ := he
  exact wr_preV g0 hP hK hD
/-- a word, a wide word at a place in range -/
theorem f_wordN (l : Launch) (D : va_G) (dI dF : ClassId) (ws : va_W) (sz : Nat) (o h n : Nat) (R : Nat → Nat → Int32) (w : Nat → Int32) (hwf : wf_at dI dF ws o h n R w) (hn1 : 1 ≤ n) (hn2 : n ≤ 16) (r : Int32) (k : Nat) (hk : k < 4) (ek : r &&& 3 = nI k) (i : Nat) (hi : i < n) : Met l yX1_word (ws_ yX1_word cX1_word 3 (some .int)) wr_r2 (wr_Pc D dI dF [.ref h, .int r, .int (nI i)] ws sz) (va_Qi (fun (r : Int32) (_ : Unit) => r = R k i) (fun _ t => wr_B D (va_A ws sz) ws t) (va_A ws sz)) 0 0 (va_A ws sz) := by
  have h9 := f_word l D dI dF ws sz o h n R w hwf hn1 hn2 r k hk ek (nI i) i (by omega) (lw_and15 (by omega))
  rwa [Nat.mod_eq_of_lt hi] at h9
theorem f_wideN (l : Launch) (D : va_G) (dI dF : ClassId) (ws : va_W) (sz : Nat) (o h n : Nat) (R : Nat → Nat → Int32) (w : Nat → Int32) (hwf : wf_at dI dF ws o h n R w) (hn1 : 1 ≤ n) (hn2 : n ≤ 16) (i : Nat) (hi : i < n + n) : Met l yX1_wide (ws_ yX1_wide cX1_wide 2 (some .int)) wr_r2 (wr_Pc D dI dF [.ref h, .int (nI i)] ws sz) (va_Qi (fun (r : Int32) (_ : Unit) => r = w i) (fun _ t => wr_B D (va_A ws sz) ws t) (va_A ws sz)) 0 0 (va_A ws sz) := by
  have h9 := f_wide l D dI dF ws sz o h n R w hwf hn1 hn2 (nI i) i (by omega) (lw_and31 (by omega))
  rwa [Nat.mod_eq_of_lt hi] at h9
/-- back to the world of the start -/
theorem lw_preP {D : va_G} {ws u : va_W} {H : Heap} (hpre : ∀ j, j < ws.length → u[j]? = ws[j]?) (hP : va_P D vwCl u H) : va_P D vwCl ws H :=
  wf_selP (fun j => j) (fun j q h => by rw [hpre j (List.getElem?_eq_some_iff.mp h).1]; exact h) hP
theorem lw_preD {A : Nat → Prop} {ws u : va_W} (hpre : ∀ j, j < ws.length → u[j]? = ws[j]?) (hD : va_D A u) : va_D A ws :=
  wf_selD (fun j => j) (fun j q h => by rw [hpre j (List.getElem?_eq_some_iff.mp h).1]; exact h) (fun _ _ _ _ e => e) hD
theorem lw_val {f g : Nat → Int32} {n : Nat} (h : ∀ j, j < n → f j = g j) : wn_v (wn_d f) n = wn_v (wn_d g) n := wn_v_congr n (fun i hi => by show wn_w (f i) = wn_w (g i); rw [h i hi])
theorem lw_put3 {f T : Nat → Int32} {p1 p2 p3 j : Nat} {a b c : Int32} (ha : a = T p1) (hb : b = T p2) (hc : c = T p3) (h : f j = T j ∨ j = p1 ∨ j = p2 ∨ j = p3) : upd (upd (upd f p1 a) p2 b) p3 c j = T j := by
  subst ha
  subst hb
  subst hc
  show (if j = p3 then T p3 else if j = p2 then T p2 else if j = p1 then T p1 else f j) = T j
  by_cases h3 : j = p3
  · rw [if_pos h3, h3]
  · rw [if_neg h3]
    by_cases h2 : j = p2
    · rw [if_pos h2, h2]
    · rw [if_neg h2]
      by_cases h1 : j = p1
      · rw [if_pos h1, h1]
      · rw [if_neg h1]
        rcases h with h | h | h | h
        · exact h
        · exact absurd h h1
        · exact absurd h h2
        · exact absurd h h3
/-- a sum's words and carry are known from its value -/
theorem lw_add_uniq {f y z : Nat → Int32} {m c : Nat} (h : wn_v (wn_d f) m + c * wn_p m = wn_v (wn_d y) m + wn_v (wn_d z) m) : (∀ i, i < m → f i = wn_cw (wn_gA y z) i) ∧ c = wn_c (wn_gA y z) m := by
  have h1 := wn_c_v (wn_gA y z) m
  rw [wn_gA_v] at h1
  have l1 := wn_v_lt (g := wn_d f) (fun i => wn_w_lt (f i)) m
  have l2 := wn_v_lt (g := wn_d (wn_cw (wn_gA y z))) (fun i => wn_w_lt _) m
  have e : wn_v (wn_d f) m + c * wn_p m = wn_v (wn_d (wn_cw (wn_gA y z))) m + wn_c (wn_gA y z) m * wn_p m := h.trans h1.symm
  have q1 : (wn_v (wn_d f) m + c * wn_p m) / wn_p m = c := by rw [Nat.add_mul_div_right _ _ (wn_p_pos m), Nat.div_eq_of_lt l1, Nat.zero_add]
  have q2 : (wn_v (wn_d (wn_cw (wn_gA y z))) m + wn_c (wn_gA y z) m * wn_p m) / wn_p m = wn_c (wn_gA y z) m := by rw [Nat.add_mul_div_right _ _ (wn_p_pos m), Nat.div_eq_of_lt l2, Nat.zero_add]
  have hc : c = wn_c (wn_gA y z) m := by rw [← q1, ← q2, e]
  rw [hc] at e
  exact ⟨fun i hi => wn_v_injI m (by omega) i hi, hc⟩
/-- two numbers with carries of one value are the same -/
theorem lw_two_uniq {f g : Nat → Int32} {m c d : Nat} (h : wn_v (wn_d f) m + c * wn_p m = wn_v (wn_d g) m + d * wn_p m) : (∀ i, i < m → f i = g i) ∧ c = d := by
  have l1 := wn_v_lt (g := wn_d f) (fun i => wn_w_lt (f i)) m
  have l2 := wn_v_lt (g := wn_d g) (fun i => wn_w_lt (g i)) m
  have q1 : (wn_v (wn_d f) m + c * wn_p m) / wn_p m = c := by rw [Nat.add_mul_div_right _ _ (wn_p_pos m), Nat.div_eq_of_lt l1, Nat.zero_add]
  have q2 : (wn_v (wn_d g) m + d * wn_p m) / wn_p m = d := by rw [Nat.add_mul_div_right _ _ (wn_p_pos m), Nat.div_eq_of_lt l2, Nat.zero_add]
  have hc : c = d := by rw [← q1, ← q2, h]
  rw [hc] at h
  exact ⟨fun i hi => wn_v_injI m (by omega) i hi, hc⟩
abbrev lw_r3 : Room := { frames := 3, cells := 13, slots := 131, locals := 110 }
abbrev lw_rA : Room := { frames := 4, cells := 40, slots := 409, locals := 150 }
abbrev lw_rS : Room := { frames := 4, cells := 130, slots := 1310, locals := 150 }
abbrev lw_rP : Room := { frames := 4, cells := 39, slots := 393, locals := 150 }
theorem lw_and1 (x : Int32) : x &&& 1 = nI (wn_w x % 2) := pk_and x 1 (by decide)
def lw_zr (w : Int32) (j : Nat) : Int32 := if j = 0 then w else 0
theorem lw_v0 : ∀ n, wn_v (fun _ => 0) n = 0
  | 0 => rfl
  | n + 1 => by
    show wn_v (fun _ => 0) n + 0 * wn_p n = 0
    rw [lw_v0 n, Nat.zero_mul]
theorem lw_Zval {f : Nat → Int32} {w : Int32} {n : Nat} (hn : 1 ≤ n) (h : ∀ j, j < n → f j = lw_zr w j) : wn_v (wn_d f) n = wn_w w := by
  rw [lw_val h]
  obtain ⟨m, rfl⟩ : ∃ m, n = 1 + m := ⟨n - 1, by omega⟩
  rw [wn_v_split]
  have h1 : wn_v (fun i => wn_d (lw_zr w) (1 + i)) m = 0 := by
    rw [← lw_v0 m]
    apply wn_v_congr
    intro i hi
    show wn_w (if 1 + i = 0 then w else 0) = 0
    rw [if_neg (by omega)]
    rfl
  rw [h1, wn_v_lin]
  show wn_w (if 0 = 0 then w else 0) + _ * 0 = _
  rw [if_pos rfl, Nat.mul_zero, Nat.add_zero]
/-- a word times a row, by the word's method and as a long product -/
theorem lw_byw {w : Nat} (hw : w < 4294967296) {y z : Nat → Int32} {n : Nat} (hn : 1 ≤ n) (h : wn_v (wn_d z) (n + n) = wn_v (wn_d y) n * w) : (∀ i, i < n → wn_cw (wn_gM w y) i = z i) ∧ nI (wn_c (wn_gM w y) n) = z n := by
  have h1 := wn_c_v (wn_gM w y) n
  rw [wn_gM_v] at h1
  have h2 := wn_v_split (wn_d z) n n
  have hc : wn_c (wn_gM w y) n < 4294967296 := wn_c_lt (wn_gM_le hw y) n
  rw [h, Nat.mul_comm, Nat.mul_comm (wn_p n)] at h2
  obtain ⟨e1, e2⟩ := lw_two_uniq (h1.trans h2)
  refine ⟨e1, ?_⟩
  obtain ⟨m, hm⟩ : ∃ m, n = 1 + m := ⟨n - 1, by omega⟩
  have h3 : wn_v (fun i => wn_d z (n + i)) n = wn_w (z n) + 4294967296 * wn_v (fun i => wn_d z (n + (1 + i))) m := by
    have h4 := wn_v_split (fun i => wn_d z (n + i)) 1 m
    rw [← hm] at h4
    rw [h4, wn_v_lin]
    rfl
  rw [h3] at e2
  have h5 := wn_w_lt (z n)
  have h6 : wn_c (wn_gM w y) n = wn_w (z n) := by omega
  rw [h6, wn_nI_w]
theorem lw_ig_congr {f g : Nat → Int32} {n : Nat} (h : ∀ j, j < n → f j = g j) : ∀ i, i ≤ n → wn_ig f i = wn_ig g i
  | 0, _ => rfl
  | i + 1, hi => by
    show (if f i + wn_ig f i = 0 then wn_ig f i else 0) = (if g i + wn_ig g i = 0 then wn_ig g i else 0)
    rw [lw_ig_congr h i (by omega), h i (by omega)]
theorem lw_dg_congr {f g : Nat → Int32} {n : Nat} (h : ∀ j, j < n → f j = g j) : ∀ i, i ≤ n → wn_dg f i = wn_dg g i
  | 0, _ => rfl
  | i + 1, hi => by
    show (if f i - wn_dg f i = -1 then wn_dg f i else 0) = (if g i - wn_dg g i = -1 then wn_dg g i else 0)
    rw [lw_dg_congr h i (by omega), h i (by omega)]
theorem lw_iw_congr {f g : Nat → Int32} {n : Nat} (h : ∀ j, j < n → f j = g j) {i : Nat} (hi : i < n) : wn_iw f i = wn_iw g i := by
  show f i + wn_ig f i = g i + wn_ig g i
  rw [h i hi, lw_ig_congr h i (by omega)]
theorem lw_dw_congr {f g : Nat → Int32} {n : Nat} (h : ∀ j, j < n → f j = g j) {i : Nat} (hi : i < n) : wn_dw f i = wn_dw g i := by
  show f i - wn_dg f i = g i - wn_dg g i
  rw [h i hi, lw_dg_congr h i (by omega)]
theorem lw_pv_congr {f g : Nat → Int32} {n : Nat} (h : ∀ j, j < n → f j = g j) (c : Int32) : ∀ i, i ≤ n → wn_pv c f i = wn_pv c g i
  | 0, _ => rfl
  | i + 1, hi => h i (by omega)
theorem lw_uw_congr {f g : Nat → Int32} {n : Nat} (h : ∀ j, j < n → f j = g j) (k c : Int32) {i : Nat} (hi : i < n) : wn_uw k c f i = wn_uw k c g i := by
  show wn_su (f i) k ||| wn_ur (wn_pv c f i) (-k) = wn_su (g i) k ||| wn_ur (wn_pv c g i) (-k)
  rw [h i hi, lw_pv_congr h c i (by omega)]
theorem lw_nx_congr {f g : Nat → Int32} {n : Nat} (h : ∀ j, j < n → f j = g j) (c : Int32) (i : Nat) : wn_nx n c f i = wn_nx n c g i := by
  show (if i < n then f i else c) = (if i < n then g i else c)
  by_cases e : i < n
  · rw [if_pos e, if_pos e, h i e]
  · rw [if_neg e, if_neg e]
theorem lw_ow_congr {f g : Nat → Int32} {n : Nat} (h : ∀ j, j < n → f j = g j) (k c : Int32) {i : Nat} (hi : i < n) : wn_ow k c f n i = wn_ow k c g n i := by
  show wn_ur (f i) k ||| wn_su (wn_nx n c f (i + 1)) (-k) = wn_ur (g i) k ||| wn_su (wn_nx n c g (i + 1)) (-k)
  rw [h i hi, lw_nx_congr h c (i + 1)]
theorem lw_shU : ∀ k, k < 32 → 1 ≤ k → ((nI (32 - k)).toUInt32 &&& Int32.toUInt32 31) = ((-nI k).toUInt32 &&& Int32.toUInt32 31) := by decide +kernel
theorem lw_shS : ∀ k, k < 32 → 1 ≤ k → (nI (32 - k) &&& 31) = (-nI k &&& 31) := by decide +kernel
theorem lw_ur32 (bits x : Int32) : wn_ur x (nI (32 - wf_k bits)) = wn_ur x (-nI (wf_k bits)) := by
  have h := wf_k_in bits
  unfold wn_ur
  rw [lw_shU (wf_k bits) (by omega) h.1]
theorem lw_su32 (bits x : Int32) : wn_su x (nI (32 - wf_k bits)) = wn_su x (-nI (wf_k bits)) := by
  have h := wf_k_in bits
  unfold wn_su
  rw [lw_shS (wf_k bits) (by omega) h.1]
theorem lw_ur0' : ∀ k, k < 32 → wn_ur 0 (-nI k) = 0 := by decide +kernel
theorem lw_ur0 (bits : Int32) : wn_ur 0 (-nI (wf_k bits)) = 0 := lw_ur0' _ (by have h := wf_k_in bits; omega)
theorem lw_su0' : ∀ k, k < 32 → wn_su 0 (-nI k) = 0 := by decide +kernel
theorem lw_su0 (bits : Int32) : wn_su 0 (-nI (wf_k bits)) = 0 := lw_su0' _ (by have h := wf_k_in bits; omega)
theorem lw_dg0 : ∀ i, wn_dg (fun _ => 0) i = 1
  | 0 => rfl
  | i + 1 => by
    show (if (0 : Int32) - wn_dg (fun _ => 0) i = -1 then wn_dg (fun _ => 0) i else 0) = 1
    rw [lw_dg0 i]
    rfl
theorem lw_ig1 {f : Nat → Int32} {n : Nat} (h : ∀ j, j < n → f j = -1) : ∀ i, i ≤ n → wn_ig f i = 1
  | 0, _ => rfl
  | i + 1, hi => by
    show (if f i + wn_ig f i = 0 then wn_ig f i else 0) = 1
    rw [lw_ig1 h i (by omega), h i (by omega)]
    rfl
theorem lw_b0 (y : Nat → Int32) : ∀ i, wn_b y y i = 0
  | 0 => rfl
  | i + 1 => by
    show (wn_b y y i + ((wn_w (y i) : Int) - wn_w (y i))) / 4294967296 = 0
    rw [lw_b0 y i, Int.sub_self]
    rfl
theorem lw_bw0 (y : Nat → Int32) (i : Nat) : wn_bw y y i = 0 := by
  show Int32.ofInt (wn_b y y i + ((wn_w (y i) : Int) - wn_w (y i))) = 0
  rw [lw_b0 y i, Int.sub_self]
  rfl
end
section
/-! WholeFileLaw: cell, three, same, sameWide -/
set_option maxHeartbeats 4000000 in
set_option maxRecDepth 100000 in
/-- the law: cell -/
theorem c_cell (l : Launch) (D : va_G) (dI dF : ClassId) (ws : va_W) (sz : Nat) (b L : Nat) (xs : Nat → Int32) (k : Nat) (hk : k < 2 ^ 31) (hL : L < 2 ^ 31) : Met l yX0_cell (ws_ yX0_cell cX0_cell 2 (some .int)) wr_r0 (wr_PX D dI dF [.ref b, .int (nI k)] ws sz b L xs) (va_Qi (fun (r : Int32) (_ : Unit) => r = lw_cl L xs k) (fun _ t => wr_B D (va_A ws sz) ws t) (va_A ws sz)) 0 0 (va_A ws sz) := by
  refine Met.ofW (cc := cX0_cell) (maxL := 2) (ret := (some .int)) (by decide) rfl ?_
  intro p e s m args below meth c s₁ B hml hv
  obtain ⟨rfl, hsz, hP, hK, hD0, hX, hbl, hbw⟩ := hv
  have hx := B.exec
  have hb := B.bytes
  have hr := B.returns
  have hts := atoms_spec (ws := ws_ yX0_cell cX0_cell 2 (some .int)) B.pre
  have hts : ∀ w ∈ lw_all, w.before _ s = true := fun w h => hts w (List.mem_cons_of_mem _ h)
  have hown : s.vm.findClass RX0 = some m.cls := findClass_of_methodNamed B.named
  have hlocks := B.notSynchronized
  subst hsz
  have hD := hD0.self (sz := s.heap.size)
  have hbA : ¬ va_A ws s.heap.size b := fun h => h.elim (fun ⟨k, e, h⟩ => hbw k e h) (fun h => absurd hbl (Nat.not_lt.mpr h))
  generalize hAe : va_A ws s.heap.size = A at hD hbA ⊢
  have hA : ∀ q : Nat, s.heap.size ≤ q → A q := fun q h => by rw [← hAe]; exact Or.inr h
  have hS : va_S A s.heap s.heap [] := va_S.rf
  have hl := lv_entry ([.ref b, .int (nI k)]) (n := 2) (Nat.le_of_ble_eq_true rfl)
  rw [lg_entry_eq]
  generalize (lg_sl ([.ref b, .int (nI k)]) ++ List.replicate (2 - (lg_sl ([.ref b, .int (nI k)])).length) Slot.unset).toArray = ls at hl ⊢
  have hl : lv_has ls 2 [(0, .ref b), (1, .int (nI k))] := hl
  refine lv_iload_n hx hb dX0_cell_0 rfl (lv_at hl 1 rfl) ?_
  refine lv_aload_n hx hb dX0_cell_1 rfl (lv_at hl 0 rfl) ?_
  refine va_slen hx hb hX hbl hbA hS dX0_cell_2 ?_
  refine wr_topi (nI L) (rfl) ?_
  rcases Nat.lt_or_ge k L with g | g
  · skip
    refine lv_icmp_ge (tgt := 12) hx hb dX0_cell_3 (by decide) (fun q_ => absurd q_ (nI_ge g hL)) (fun _ => ?_)
    refine lv_aload_n hx hb dX0_cell_6 rfl (lv_at hl 0 rfl) ?_
    refine lv_iload_n hx hb dX0_cell_7 rfl (lv_at hl 1 rfl) ?_
    refine va_sld hx hb hX hbl hbA hS (vp_in_nI g hL) dX0_cell_8 ?_
    refine wr_topi (lw_cl L xs k) (by rw [nI_clamp hk]; exact (if_pos g).symm) ?_
    refine lv_goto (tgt := 13) hx hb dX0_cell_9 (by decide) ?_
    exact wr_iret () hx hb hr hlocks hP hD hS (rfl) (Nat.zero_le _) (Nat.zero_le _) dX0_cell_13
  · skip
    refine lv_icmp_ge (tgt := 12) hx hb dX0_cell_3 (by decide) (fun _ => ?_) (fun q_ => absurd (nI_le g hk) q_)
    refine lv_iconst (v := 0) hx hb dX0_cell_12 (by decide) ?_
    refine wr_topi (lw_cl L xs k) ((if_neg (Nat.not_lt.mpr g)).symm) ?_
    exact wr_iret () hx hb hr hlocks hP hD hS (rfl) (Nat.zero_le _) (Nat.zero_le _) dX0_cell_13

set_option maxHeartbeats 4000000 in
set_option maxRecDepth 100000 in
/-- the law: three numbers out of the script -/
theorem c_three (l : Launch) (D : va_G) (dI dF : ClassId) (ws : va_W) (sz : Nat) (b L : Nat) (xs : Nat → Int32) (hL : L < 2 ^ 31) (n : Nat) (hn : n = lw_N L xs) : Met l yX0_three (ws_ yX0_three cX0_three 6 (some (.object "WholeFile"))) lw_r3 (wr_PX D dI dF [.ref b] ws sz b L xs) (va_Qr (fun _ => True) (fun (u : va_W) (q : Nat) (t : State) => wr_B D (va_A ws sz) u t ∧ (u.length = ws.length + 7 ∧ (∀ j, j < ws.length → u[j]? = ws[j]?) ∧ ∃ (R : Nat → Nat → Int32) (w : Nat → Int32), wf_at dI dF u ws.length q n R w ∧ ∀ r j, r < 3 → j < n → R r j = lw_T L xs r j)) (va_A ws sz)) 13 131 (va_A ws sz) := by
  refine Met.ofW (cc := cX0_three) (maxL := 6) (ret := (some (.object "WholeFile"))) (by decide) rfl ?_
  intro p e s m args below meth c s₁ B hml hv
  obtain ⟨rfl, hsz, hP, hK, hD0, hX0, hbl, hbw⟩ := hv
  have hx := B.exec
  have hb := B.bytes
  have hr := B.returns
  have hts := atoms_spec (ws := ws_ yX0_three cX0_three 6 (some (.object "WholeFile"))) B.pre
  have hts : ∀ w ∈ lw_all, w.before _ s = true := fun w h => hts w (List.mem_cons_of_mem _ h)
  have hown : s.vm.findClass RX0 = some m.cls := findClass_of_methodNamed B.named
  have hlocks := B.notSynchronized
  subst hsz
  have hD := hD0.self (sz := s.heap.size)
  have hbA : ¬ va_A ws s.heap.size b := fun h => h.elim (fun ⟨k, e, h⟩ => hbw k e h) (fun h => absurd hbl (Nat.not_lt.mpr h))
  generalize hAe : va_A ws s.heap.size = A at hD hbA ⊢
  have hA : ∀ q : Nat, s.heap.size ≤ q → A q := fun q h => by rw [← hAe]; exact Or.inr h
  have hS : va_S A s.heap s.heap [] := va_S.rf
  have hl := lv_entry ([.ref b]) (n := 6) (Nat.le_of_ble_eq_true rfl)
  rw [lg_entry_eq]
  generalize (lg_sl ([.ref b]) ++ List.replicate (6 - (lg_sl ([.ref b])).length) Slot.unset).toArray = ls at hl ⊢
  have hl : lv_has ls 6 [(0, .ref b)] := hl
  obtain ⟨hn1, hn2⟩ := lw_N_in hn
  have hB : n < 2 ^ 31 := by omega
  refine va_new (ci := 0) (fs := [.int 0, .null, .null]) (C := RX1) (T := TX1) (N := 3) hx hb hts in_X1 tyX1 tyX1_ok hown (hts _ q102) (hts _ q103) (hts _ q1) hK.1 hP hD hS hA rfl (fun j hj => by rcases (show j = 0 ∨ j = 1 ∨ j = 2 by omega) with rfl | rfl | rfl <;> rfl) (Nat.le_of_ble_eq_true rfl) (Nat.le_of_ble_eq_true rfl) dX0_three_0 (fun q H hP hD hS => ?_)
  refine lv_dup hx hb dX0_three_3 rfl ?_
  have gq : (ws ++ [(q, .inr (0, [.int 0, .null, .null]))])[ws.length]? = some (q, .inr (0, [.int 0, .null, .null])) := by rw [List.getElem?_append_right (Nat.le_refl _), Nat.sub_self]; rfl
  have glen : (ws ++ [((q, .inr (0, [.int 0, .null, .null])) : Nat × va_E)]).length = ws.length + 1 := by rw [List.length_append]; rfl
  refine wr_callv hD hS hA (va_runI (As := []) (rest := [.ref q]) ⟨hx, hb, hml, hown, hts⟩ (f_init l D dI dF _ H.size ws.length q gq glen.symm) (cwI 0 hts (lw_meth q106) rfl rfl rfl (hts _ q1) (hts _ q104) (hts _ q105) rfl (by decide +kernel) ⟨Nat.le_of_ble_eq_true rfl, Nat.le_of_ble_eq_true rfl⟩) (wr_preS hP hK hD) rfl rfl hl.1 rfl (lv_room (Nat.le_of_ble_eq_true rfl)) dX0_three_4 ⟨Nat.le_of_ble_eq_true rfl, Nat.le_of_ble_eq_true rfl⟩) (fun u H locs hp hP hD hS => ?_)
  obtain ⟨hl1, hp1, hX⟩ := hp
  rw [glen] at hl1
  have hpre : ∀ j, j < ws.length → u[j]? = ws[j]? := fun j hj => (hp1 j hj).trans (List.getElem?_append_left hj)
  refine lv_astore_n (lv' := [(1, .ref q), (0, .ref b)]) hx hb dX0_three_7 rfl hl (by decide) rfl (fun ls hl => ?_)
  refine lv_aload_n hx hb dX0_three_8 rfl (lv_at hl 0 rfl) ?_
  refine lv_aload_n hx hb dX0_three_9 rfl (lv_at hl 1 rfl) ?_
  refine lv_iconst (v := nI 0) hx hb dX0_three_10 (by decide) ?_
  refine wr_calli0 hD hS hA (va_runS (As := [.ref b, .int (nI 0)]) (rest := [.ref q]) ⟨hx, hb, hml, hown, hts⟩ (c_cell l D dI dF _ H.size b L xs (0) (by decide) hL) (va_cwS 2 hts (lw_S q96 q97 q0 q98) rfl rfl rfl (by decide +kernel) ⟨Nat.le_of_ble_eq_true rfl, Nat.le_of_ble_eq_true rfl⟩) (wr_preX hX0 hbl hbA hP hK hD hS) rfl rfl hl.1 rfl (lv_room (Nat.le_of_ble_eq_true rfl)) dX0_three_11 ⟨Nat.le_of_ble_eq_true rfl, Nat.le_of_ble_eq_true rfl⟩) (fun r_ u_ H locs hp hP hD hS => ?_)
  subst hp
  refine wr_callv hD hS hA (va_runV (As := [.int (lw_cl L xs (0))]) (rest := []) ⟨hx, hb, hml, hown, hts⟩ (f_width l D dI dF _ H.size _ _ _ _ _ hX (lw_cl L xs 0) n hn) (cwV 1 hts (lw_V q123 q124 q125 q1 q126) rfl rfl rfl (by decide +kernel) ⟨Nat.le_of_ble_eq_true rfl, Nat.le_of_ble_eq_true rfl⟩) (wf_preV hX hP hK hD) rfl rfl hl.1 rfl (lv_room (Nat.le_of_ble_eq_true rfl)) dX0_three_14 ⟨Nat.le_of_ble_eq_true rfl, Nat.le_of_ble_eq_true rfl⟩) (fun u H locs hp hP hD hS => ?_)
  have hlen : u.length = ws.length + 7 := by rw [hp.1, hl1]
  have hpre : ∀ j, j < ws.length → u[j]? = ws[j]? := fun j hj => (hp.2.1 j (Or.inl hj)).trans (hpre j hj)
  have hX := hp.2.2
  refine W.widen (k := 13) (n := 131) (by decide) (by decide) ?_
  refine lv_iconst (v := nI 1) hx hb dX0_three_17 (by decide) ?_
  refine lv_aload_n hx hb dX0_three_18 rfl (lv_at hl 1 rfl) ?_
  refine lv_iconst (v := nI 0) hx hb dX0_three_19 (by decide) ?_
  refine wr_calli0 hD hS hA (va_runS (As := [.ref b, .int (nI 0)]) (rest := [.int (nI 1)]) ⟨hx, hb, hml, hown, hts⟩ (c_cell l D dI dF _ H.size b L xs (0) (by decide) hL) (va_cwS 2 hts (lw_S q96 q97 q0 q98) rfl rfl rfl (by decide +kernel) ⟨Nat.le_of_ble_eq_true rfl, Nat.le_of_ble_eq_true rfl⟩) (wr_preX hX0 hbl hbA hP hK hD hS) rfl rfl hl.1 rfl (lv_room (Nat.le_of_ble_eq_true rfl)) dX0_three_20 ⟨Nat.le_of_ble_eq_true rfl, Nat.le_of_ble_eq_true rfl⟩) (fun r_ u_ H locs hp hP hD hS => ?_)
  subst hp
  refine lv_bipush (v := 15) hx hb dX0_three_23 (by decide) ?_
  refine lv_iand hx hb dX0_three_25 ?_
  refine wr_topi (nI (wn_w (lw_cl L xs 0) % 16)) (wf_and15 _) ?_
  refine lv_iadd hx hb dX0_three_26 ?_
  refine wr_topi (nI n) (by rw [nI_add, hn]; rfl) ?_
  refine lv_istore_n (lv' := [(2, .int (nI n)), (1, .ref q), (0, .ref b)]) hx hb dX0_three_27 rfl hl (by decide) rfl (fun ls hl => ?_)
  refine lv_iconst (v := nI 0) hx hb dX0_three_28 (by decide) ?_
  refine lv_istore_n (lv' := [(3, .int (nI 0)), (2, .int (nI n)), (1, .ref q), (0, .ref b)]) hx hb dX0_three_29 rfl hl (by decide) rfl (fun ls hl => ?_)
  have loop : ∀ (k r : Nat) (u : va_W) (R : Nat → Nat → Int32) (w_ : Nat → Int32) (H : Heap) (locs : List Loc) (ls : Array Slot), r + k = 3 → (∀ r1 j, r1 < r → j < n → R r1 j = lw_T L xs r1 j) → u.length = ws.length + 7 → (∀ j, j < ws.length → u[j]? = ws[j]?) → wf_at dI dF u ws.length q n R w_ → va_P D vwCl u H → va_D A u → va_S A s.heap H locs → lv_has ls 6 [(3, .int (nI r)), (0, .ref b), (1, .ref q), (2, .int (nI n))] → W p l e (headSpec (ws_ yX0_three cX0_three 6 (some (.object "WholeFile"))) lw_r3).room s m (([.ref b] : List Value).toArray) below meth c H locs 13 131 (MQ below (va_Qr (fun _ => True) (fun (u : va_W) (q : Nat) (t : State) => wr_B D A u t ∧ (u.length = ws.length + 7 ∧ (∀ j, j < ws.length → u[j]? = ws[j]?) ∧ ∃ (R : Nat → Nat → Int32) (w : Nat → Int32), wf_at dI dF u ws.length q n R w ∧ ∀ r j, r < 3 → j < n → R r j = lw_T L xs r j)) A) (([.ref b] : List Value).toArray) s 13 131 A) (F0 m 30 ls []) := by
    intro k
    induction k with
    | zero =>
      intro r u R w_ H locs ls hrk hR hlen hpre hX hP hD hS hl
      have hr3 : r = 3 := by omega
      rw [hr3] at hl hR
      refine lv_iload_n hx hb dX0_three_30 rfl (lv_at hl 0 rfl) ?_
      refine lv_iconst (v := nI 3) hx hb dX0_three_31 (by decide) ?_
      refine lv_icmp_ge (tgt := 145) hx hb dX0_three_32 (by decide) (fun _ => ?_) (fun q_ => absurd (nI_le (Nat.le_refl 3) (by decide)) q_)
      refine lv_aload_n hx hb dX0_three_145 rfl (lv_at hl 2 rfl) ?_
      exact wr_aret u hx hb hr hlocks hP hD hS ⟨hlen, hpre, R, w_, hX, hR⟩ (Nat.le_refl _) (Nat.le_refl _) dX0_three_146
    | succ k ih =>
      intro r u R w_ H locs ls hrk hR hlen hpre hX hP hD hS hl
      have hr3 : r < 3 := by omega
      refine lv_iload_n hx hb dX0_three_30 rfl (lv_at hl 0 rfl) ?_
      refine lv_iconst (v := nI 3) hx hb dX0_three_31 (by decide) ?_
      refine lv_icmp_ge (tgt := 145) hx hb dX0_three_32 (by decide) (fun q_ => absurd q_ (nI_ge hr3 (by decide))) (fun _ => ?_)
      refine lv_iconst (v := nI 0) hx hb dX0_three_35 (by decide) ?_
      refine lv_istore (lv' := [(4, .int (nI 0)), (3, .int (nI r)), (0, .ref b), (1, .ref q), (2, .int (nI n))]) hx hb dX0_three_36 hl (by decide) rfl (fun ls hl => ?_)
      have inner : ∀ (k2 i : Nat) (u : va_W) (R : Nat → Nat → Int32) (w_ : Nat → Int32) (H : Heap) (locs : List Loc) (ls : Array Slot), i + k2 = n → (∀ r1 j, r1 < r → j < n → R r1 j = lw_T L xs r1 j) → (∀ j, j < i → R r j = lw_T L xs r j) → u.length = ws.length + 7 → (∀ j, j < ws.length → u[j]? = ws[j]?) → wf_at dI dF u ws.length q n R w_ → va_P D vwCl u H → va_D A u → va_S A s.heap H locs → lv_has ls 6 [(4, .int (nI i)), (3, .int (nI r)), (0, .ref b), (1, .ref q), (2, .int (nI n))] → W p l e (headSpec (ws_ yX0_three cX0_three 6 (some (.object "WholeFile"))) lw_r3).room s m (([.ref b] : List Value).toArray) below meth c H locs 13 131 (MQ below (va_Qr (fun _ => True) (fun (u : va_W) (q : Nat) (t : State) => wr_B D A u t ∧ (u.length = ws.length + 7 ∧ (∀ j, j < ws.length → u[j]? = ws[j]?) ∧ ∃ (R : Nat → Nat → Int32) (w : Nat → Int32), wf_at dI dF u ws.length q n R w ∧ ∀ r j, r < 3 → j < n → R r j = lw_T L xs r j)) A) (([.ref b] : List Value).toArray) s 13 131 A) (F0 m 38 ls []) := by
        intro k2
        induction k2 with
        | zero =>
          intro i u R w_ H locs ls hik hR hRi hlen hpre hX hP hD hS hl
          have hin : i = n := by omega
          rw [hin] at hl hRi
          refine lv_iload hx hb dX0_three_38 (lv_at hl 0 rfl) ?_
          refine lv_iload_n hx hb dX0_three_40 rfl (lv_at hl 4 rfl) ?_
          refine lv_icmp_ge (tgt := 139) hx hb dX0_three_41 (by decide) (fun _ => ?_) (fun q_ => absurd (nI_le (Nat.le_refl n) hB) q_)
          refine lv_iinc (v := nI (r + 1)) (lv' := [(3, .int (nI (r + 1))), (4, .int (nI n)), (0, .ref b), (1, .ref q), (2, .int (nI n))]) hx hb dX0_three_139 hl (k := 1) rfl (wn_inc r) (by decide) rfl (fun ls hl => ?_)
          refine lv_goto (tgt := 30) hx hb dX0_three_142 (by decide) ?_
          refine ih (r + 1) u R w_ H locs ls (by omega) (fun r1 j h1 h2 => ?_) hlen hpre hX hP hD hS (lv_sub hl [0, 2, 3, 4] rfl)
          rcases Nat.lt_or_ge r1 r with g | g
          · exact hR r1 j g h2
          · rw [show r1 = r by omega]; exact hRi j h2
        | succ k2 ih2 =>
          intro i u R w_ H locs ls hik hR hRi hlen hpre hX hP hD hS hl
          have hi : i < n := by omega
          refine lv_iload hx hb dX0_three_38 (lv_at hl 0 rfl) ?_
          refine lv_iload_n hx hb dX0_three_40 rfl (lv_at hl 4 rfl) ?_
          refine lv_icmp_ge (tgt := 139) hx hb dX0_three_41 (by decide) (fun q_ => absurd q_ (nI_ge hi hB)) (fun _ => ?_)
          refine lv_iconst (v := nI 1) hx hb dX0_three_44 (by decide) ?_
          refine lv_bipush (v := nI 16) hx hb dX0_three_45 (by decide) ?_
          refine lv_iload_n hx hb dX0_three_47 rfl (lv_at hl 1 rfl) ?_
          refine lv_imul hx hb dX0_three_48 ?_
          refine wr_topi (nI (16 * r)) (pk_mul _ _) ?_
          refine lv_iadd hx hb dX0_three_49 ?_
          refine wr_topi (nI (1 + 16 * r)) (nI_add _ _) ?_
          refine lv_iload hx hb dX0_three_50 (lv_at hl 0 rfl) ?_
          refine lv_iadd hx hb dX0_three_52 ?_
          refine wr_topi (nI (1 + 16 * r + i)) (nI_add _ _) ?_
          refine lv_istore (lv' := [(5, .int (nI (1 + 16 * r + i))), (4, .int (nI i)), (3, .int (nI r)), (0, .ref b), (1, .ref q), (2, .int (nI n))]) hx hb dX0_three_53 hl (by decide) rfl (fun ls hl => ?_)
          refine lv_aload_n hx hb dX0_three_55 rfl (lv_at hl 4 rfl) ?_
          refine lv_iload_n hx hb dX0_three_56 rfl (lv_at hl 2 rfl) ?_
          refine lv_iload hx hb dX0_three_57 (lv_at hl 1 rfl) ?_
          refine lv_aload_n hx hb dX0_three_59 rfl (lv_at hl 3 rfl) ?_
          refine lv_iload hx hb dX0_three_60 (lv_at hl 0 rfl) ?_
          refine wr_calli0 hD hS hA (va_runS (As := [.ref b, .int (nI (1 + 16 * r + i))]) (rest := [.int (nI i), .int (nI r), .ref q]) ⟨hx, hb, hml, hown, hts⟩ (c_cell l D dI dF _ H.size b L xs (1 + 16 * r + i) (by omega) hL) (va_cwS 2 hts (lw_S q96 q97 q0 q98) rfl rfl rfl (by decide +kernel) ⟨Nat.le_of_ble_eq_true rfl, Nat.le_of_ble_eq_true rfl⟩) (wr_preX hX0 hbl hbA hP hK hD hS) rfl rfl hl.1 rfl (lv_room (Nat.le_of_ble_eq_true rfl)) dX0_three_62 ⟨Nat.le_of_ble_eq_true rfl, Nat.le_of_ble_eq_true rfl⟩) (fun r_ u_ H locs hp hP hD hS => ?_)
          subst hp
          have c94 : (∀ (H : Heap) (locs : List Loc), va_P D vwCl u H → va_D A u → va_S A s.heap H locs → W p l e (headSpec (ws_ yX0_three cX0_three 6 (some (.object "WholeFile"))) lw_r3).room s m (([.ref b] : List Value).toArray) below meth c H locs 13 131 (MQ below (va_Qr (fun _ => True) (fun (u : va_W) (q : Nat) (t : State) => wr_B D A u t ∧ (u.length = ws.length + 7 ∧ (∀ j, j < ws.length → u[j]? = ws[j]?) ∧ ∃ (R : Nat → Nat → Int32) (w : Nat → Int32), wf_at dI dF u ws.length q n R w ∧ ∀ r j, r < 3 → j < n → R r j = lw_T L xs r j)) A) (([.ref b] : List Value).toArray) s 13 131 A) (F0 m 94 ls [.int (lw_T L xs r ((i + 1) % n)), .int (lw_cl L xs (1 + 16 * r + i)), .int (nI i), .int (nI r), .ref q])) → ∀ (H : Heap) (locs : List Loc), va_P D vwCl u H → va_D A u → va_S A s.heap H locs → W p l e (headSpec (ws_ yX0_three cX0_three 6 (some (.object "WholeFile"))) lw_r3).room s m (([.ref b] : List Value).toArray) below meth c H locs 13 131 (MQ below (va_Qr (fun _ => True) (fun (u : va_W) (q : Nat) (t : State) => wr_B D A u t ∧ (u.length = ws.length + 7 ∧ (∀ j, j < ws.length → u[j]? = ws[j]?) ∧ ∃ (R : Nat → Nat → Int32) (w : Nat → Int32), wf_at dI dF u ws.length q n R w ∧ ∀ r j, r < 3 → j < n → R r j = lw_T L xs r j)) A) (([.ref b] : List Value).toArray) s 13 131 A) (F0 m 65 ls [.int (lw_cl L xs (1 + 16 * r + i)), .int (nI i), .int (nI r), .ref q]) := by
            intro kk H locs hP hD hS
            refine lv_iload hx hb dX0_three_65 (lv_at hl 1 rfl) ?_
            refine lv_iconst (v := nI 1) hx hb dX0_three_67 (by decide) ?_
            refine lv_iadd hx hb dX0_three_68 ?_
            refine wr_topi (nI (i + 1)) (nI_add _ _) ?_
            refine lv_iload_n hx hb dX0_three_69 rfl (lv_at hl 5 rfl) ?_
            rcases Nat.lt_or_ge (i + 1) n with g | g
            · skip
              refine lv_icmp_ge (tgt := 84) hx hb dX0_three_70 (by decide) (fun q_ => absurd q_ (nI_ge g hB)) (fun _ => ?_)
              refine lv_aload_n hx hb dX0_three_73 rfl (lv_at hl 3 rfl) ?_
              refine lv_iload hx hb dX0_three_74 (lv_at hl 0 rfl) ?_
              refine lv_iconst (v := nI 1) hx hb dX0_three_76 (by decide) ?_
              refine lv_iadd hx hb dX0_three_77 ?_
              refine wr_topi (nI (1 + 16 * r + i + 1)) (nI_add _ _) ?_
              refine wr_calli0 hD hS hA (va_runS (As := [.ref b, .int (nI (1 + 16 * r + i + 1))]) (rest := [.int (lw_cl L xs (1 + 16 * r + i)), .int (nI i), .int (nI r), .ref q]) ⟨hx, hb, hml, hown, hts⟩ (c_cell l D dI dF _ H.size b L xs (1 + 16 * r + i + 1) (by omega) hL) (va_cwS 2 hts (lw_S q96 q97 q0 q98) rfl rfl rfl (by decide +kernel) ⟨Nat.le_of_ble_eq_true rfl, Nat.le_of_ble_eq_true rfl⟩) (wr_preX hX0 hbl hbA hP hK hD hS) rfl rfl hl.1 rfl (lv_room (Nat.le_of_ble_eq_true rfl)) dX0_three_78 ⟨Nat.le_of_ble_eq_true rfl, Nat.le_of_ble_eq_true rfl⟩) (fun r_ u_ H locs hp hP hD hS => ?_)
              subst hp
              refine wr_topi (lw_T L xs r ((i + 1) % n)) (by rw [Nat.mod_eq_of_lt g]; rfl) ?_
              refine lv_goto (tgt := 94) hx hb dX0_three_81 (by decide) ?_
              exact kk H locs hP hD hS
            · skip
              refine lv_icmp_ge (tgt := 84) hx hb dX0_three_70 (by decide) (fun _ => ?_) (fun q_ => absurd (nI_le g (by omega)) q_)
              refine lv_aload_n hx hb dX0_three_84 rfl (lv_at hl 3 rfl) ?_
              refine lv_iconst (v := nI 1) hx hb dX0_three_85 (by decide) ?_
              refine lv_bipush (v := nI 16) hx hb dX0_three_86 (by decide) ?_
              refine lv_iload_n hx hb dX0_three_88 rfl (lv_at hl 2 rfl) ?_
              refine lv_imul hx hb dX0_three_89 ?_
              refine wr_topi (nI (16 * r)) (pk_mul _ _) ?_
              refine lv_iadd hx hb dX0_three_90 ?_
              refine wr_topi (nI (1 + 16 * r)) (nI_add _ _) ?_
              refine wr_calli0 hD hS hA (va_runS (As := [.ref b, .int (nI (1 + 16 * r))]) (rest := [.int (lw_cl L xs (1 + 16 * r + i)), .int (nI i), .int (nI r), .ref q]) ⟨hx, hb, hml, hown, hts⟩ (c_cell l D dI dF _ H.size b L xs (1 + 16 * r) (by omega) hL) (va_cwS 2 hts (lw_S q96 q97 q0 q98) rfl rfl rfl (by decide +kernel) ⟨Nat.le_of_ble_eq_true rfl, Nat.le_of_ble_eq_true rfl⟩) (wr_preX hX0 hbl hbA hP hK hD hS) rfl rfl hl.1 rfl (lv_room (Nat.le_of_ble_eq_true rfl)) dX0_three_91 ⟨Nat.le_of_ble_eq_true rfl, Nat.le_of_ble_eq_true rfl⟩) (fun r_ u_ H locs hp hP hD hS => ?_)
              subst hp
              refine wr_topi (lw_T L xs r ((i + 1) % n)) (by rw [show i + 1 = n by omega, Nat.mod_self]; rfl) ?_
              exact kk H locs hP hD hS
          refine c94 (fun H locs hP hD hS => ?_) H locs hP hD hS
          have c130 : (∀ (H : Heap) (locs : List Loc), va_P D vwCl u H → va_D A u → va_S A s.heap H locs → W p l e (headSpec (ws_ yX0_three cX0_three 6 (some (.object "WholeFile"))) lw_r3).room s m (([.ref b] : List Value).toArray) below meth c H locs 13 131 (MQ below (va_Qr (fun _ => True) (fun (u : va_W) (q : Nat) (t : State) => wr_B D A u t ∧ (u.length = ws.length + 7 ∧ (∀ j, j < ws.length → u[j]? = ws[j]?) ∧ ∃ (R : Nat → Nat → Int32) (w : Nat → Int32), wf_at dI dF u ws.length q n R w ∧ ∀ r j, r < 3 → j < n → R r j = lw_T L xs r j)) A) (([.ref b] : List Value).toArray) s 13 131 A) (F0 m 130 ls [.int (lw_T L xs r ((i + 2) % n)), .int (lw_T L xs r ((i + 1) % n)), .int (lw_cl L xs (1 + 16 * r + i)), .int (nI i), .int (nI r), .ref q])) → ∀ (H : Heap) (locs : List Loc), va_P D vwCl u H → va_D A u → va_S A s.heap H locs → W p l e (headSpec (ws_ yX0_three cX0_three 6 (some (.object "WholeFile"))) lw_r3).room s m (([.ref b] : List Value).toArray) below meth c H locs 13 131 (MQ below (va_Qr (fun _ => True) (fun (u : va_W) (q : Nat) (t : State) => wr_B D A u t ∧ (u.length = ws.length + 7 ∧ (∀ j, j < ws.length → u[j]? = ws[j]?) ∧ ∃ (R : Nat → Nat → Int32) (w : Nat → Int32), wf_at dI dF u ws.length q n R w ∧ ∀ r j, r < 3 → j < n → R r j = lw_T L xs r j)) A) (([.ref b] : List Value).toArray) s 13 131 A) (F0 m 94 ls [.int (lw_T L xs r ((i + 1) % n)), .int (lw_cl L xs (1 + 16 * r + i)), .int (nI i), .int (nI r), .ref q]) := by
            intro kk H locs hP hD hS
            refine lv_iload hx hb dX0_three_94 (lv_at hl 1 rfl) ?_
            refine lv_iconst (v := nI 2) hx hb dX0_three_96 (by decide) ?_
            refine lv_iadd hx hb dX0_three_97 ?_
            refine wr_topi (nI (i + 2)) (nI_add _ _) ?_
            refine lv_iload_n hx hb dX0_three_98 rfl (lv_at hl 5 rfl) ?_
            rcases Nat.lt_or_ge (i + 2) n with g | g
            · skip
              refine lv_icmp_ge (tgt := 113) hx hb dX0_three_99 (by decide) (fun q_ => absurd q_ (nI_ge g hB)) (fun _ => ?_)
              refine lv_aload_n hx hb dX0_three_102 rfl (lv_at hl 3 rfl) ?_
              refine lv_iload hx hb dX0_three_103 (lv_at hl 0 rfl) ?_
              refine lv_iconst (v := nI 2) hx hb dX0_three_105 (by decide) ?_
              refine lv_iadd hx hb dX0_three_106 ?_
              refine wr_topi (nI (1 + 16 * r + i + 2)) (nI_add _ _) ?_
              refine wr_calli0 hD hS hA (va_runS (As := [.ref b, .int (nI (1 + 16 * r + i + 2))]) (rest := [.int (lw_T L xs r ((i + 1) % n)), .int (lw_cl L xs (1 + 16 * r + i)), .int (nI i), .int (nI r), .ref q]) ⟨hx, hb, hml, hown, hts⟩ (c_cell l D dI dF _ H.size b L xs (1 + 16 * r + i + 2) (by omega) hL) (va_cwS 2 hts (lw_S q96 q97 q0 q98) rfl rfl rfl (by decide +kernel) ⟨Nat.le_of_ble_eq_true rfl, Nat.le_of_ble_eq_true rfl⟩) (wr_preX hX0 hbl hbA hP hK hD hS) rfl rfl hl.1 rfl (lv_room (Nat.le_of_ble_eq_true rfl)) dX0_three_107 ⟨Nat.le_of_ble_eq_true rfl, Nat.le_of_ble_eq_true rfl⟩) (fun r_ u_ H locs hp hP hD hS => ?_)
              subst hp
              refine wr_topi (lw_T L xs r ((i + 2) % n)) (by rw [Nat.mod_eq_of_lt g]; rfl) ?_
              refine lv_goto (tgt := 130) hx hb dX0_three_110 (by decide) ?_
              exact kk H locs hP hD hS
            · skip
              refine lv_icmp_ge (tgt := 113) hx hb dX0_three_99 (by decide) (fun _ => ?_) (fun q_ => absurd (nI_le g (by omega)) q_)
              refine lv_aload_n hx hb dX0_three_113 rfl (lv_at hl 3 rfl) ?_
              refine lv_iconst (v := nI 1) hx hb dX0_three_114 (by decide) ?_
              refine lv_bipush (v := nI 16) hx hb dX0_three_115 (by decide) ?_
              refine lv_iload_n hx hb dX0_three_117 rfl (lv_at hl 2 rfl) ?_
              refine lv_imul hx hb dX0_three_118 ?_
              refine wr_topi (nI (16 * r)) (pk_mul _ _) ?_
              refine lv_iadd hx hb dX0_three_119 ?_
              refine wr_topi (nI (1 + 16 * r)) (nI_add _ _) ?_
              refine lv_iload hx hb dX0_three_120 (lv_at hl 1 rfl) ?_
              refine lv_iconst (v := nI 2) hx hb dX0_three_122 (by decide) ?_
              refine lv_iadd hx hb dX0_three_123 ?_
              refine wr_topi (nI (i + 2)) (nI_add _ _) ?_
              refine lv_iload_n hx hb dX0_three_124 rfl (lv_at hl 5 rfl) ?_
              refine lv_irem hx hb dX0_three_125 (nI_ne0 (by omega) hB) ?_
              refine wr_topi (nI ((i + 2) % n)) (pk_rem (by omega) (by omega) hB) ?_
              refine lv_iadd hx hb dX0_three_126 ?_
              refine wr_topi (nI (1 + 16 * r + (i + 2) % n)) (nI_add _ _) ?_
              have hm2 : (i + 2) % n < n := Nat.mod_lt _ (by omega)
              refine wr_calli0 hD hS hA (va_runS (As := [.ref b, .int (nI (1 + 16 * r + (i + 2) % n))]) (rest := [.int (lw_T L xs r ((i + 1) % n)), .int (lw_cl L xs (1 + 16 * r + i)), .int (nI i), .int (nI r), .ref q]) ⟨hx, hb, hml, hown, hts⟩ (c_cell l D dI dF _ H.size b L xs (1 + 16 * r + (i + 2) % n) (by omega) hL) (va_cwS 2 hts (lw_S q96 q97 q0 q98) rfl rfl rfl (by decide +kernel) ⟨Nat.le_of_ble_eq_true rfl, Nat.le_of_ble_eq_true rfl⟩) (wr_preX hX0 hbl hbA hP hK hD hS) rfl rfl hl.1 rfl (lv_room (Nat.le_of_ble_eq_true rfl)) dX0_three_127 ⟨Nat.le_of_ble_eq_true rfl, Nat.le_of_ble_eq_true rfl⟩) (fun r_ u_ H locs hp hP hD hS => ?_)
              subst hp
              refine wr_topi (lw_T L xs r ((i + 2) % n)) (rfl) ?_
              exact kk H locs hP hD hS
          refine c130 (fun H locs hP hD hS => ?_) H locs hP hD hS
          refine wr_callv0 hD hS hA (va_runV (As := [.int (nI r), .int (nI i), .int (lw_cl L xs (1 + 16 * r + i)), .int (lw_T L xs r ((i + 1) % n)), .int (lw_T L xs r ((i + 2) % n))]) (rest := []) ⟨hx, hb, hml, hown, hts⟩ (f_put l D dI dF _ H.size _ _ _ _ _ hX hn1 hn2 (nI r) r (by omega) (lw_and3 (by omega)) (nI i) i (by omega) (lw_and15 (by omega)) (lw_cl L xs (1 + 16 * r + i)) (lw_T L xs r ((i + 1) % n)) (lw_T L xs r ((i + 2) % n))) (cwV 5 hts (lw_V q127 q128 q129 q1 q130) rfl rfl rfl (by decide +kernel) ⟨Nat.le_of_ble_eq_true rfl, Nat.le_of_ble_eq_true rfl⟩) (wf_preV hX hP hK hD) rfl rfl hl.1 rfl (lv_room (Nat.le_of_ble_eq_true rfl)) dX0_three_130 ⟨Nat.le_of_ble_eq_true rfl, Nat.le_of_ble_eq_true rfl⟩) (fun u H locs hp hP hD hS => ?_)
          rw [Nat.mod_eq_of_lt hi] at hp
          refine lv_iinc (v := nI (i + 1)) (lv' := [(4, .int (nI (i + 1))), (5, .int (nI (1 + 16 * r + i))), (3, .int (nI r)), (0, .ref b), (1, .ref q), (2, .int (nI n))]) hx hb dX0_three_133 hl (k := 1) rfl (wn_inc i) (by decide) rfl (fun ls hl => ?_)
          refine lv_goto (tgt := 38) hx hb dX0_three_136 (by decide) ?_
          refine ih2 (i + 1) u _ w_ H locs ls (by omega) (fun r1 j h1 h2 => ?_) (fun j hj => ?_) (hp.1.trans hlen) (fun j hj => (hp.2.1 j (Or.inl hj)).trans (hpre j hj)) hp.2.2 hP hD hS (lv_sub hl [0, 2, 3, 4, 5] rfl)
          · rw [show va_up R r _ r1 = R r1 from if_neg (by omega)]; exact hR r1 j h1 h2
          · rw [show va_up R r _ r = _ from if_pos rfl]; exact lw_put3 (T := lw_T L xs r) rfl rfl rfl (by rcases Nat.lt_or_ge j i with g | g; exact Or.inl (hRi j g); exact Or.inr (Or.inl (by omega)))
      exact inner n 0 u R w_ H locs ls (by omega) hR (fun j hj => absurd hj (Nat.not_lt_zero j)) hlen hpre hX hP hD hS (lv_sub hl [0, 1, 2, 3, 4] rfl)
  exact loop 3 0 u _ _ H locs ls rfl (fun r1 j h1 => absurd h1 (Nat.not_lt_zero r1)) hlen hpre hX hP hD hS (lv_sub hl [0, 3, 2, 1] rfl)

set_option maxHeartbeats 4000000 in
set_option maxRecDepth 100000 in
/-- the law: same -/
theorem c_same (l : Launch) (D : va_G) (dI dF : ClassId) (ws : va_W) (sz : Nat) (ox qx oy qy n : Nat) (Rx Ry : Nat → Nat → Int32) (wx wy : Nat → Int32) (hX : wf_at dI dF ws ox qx n Rx wx) (hY : wf_at dI dF ws oy qy n Ry wy) (hn1 : 1 ≤ n) (hn2 : n ≤ 16) (p_ : Int32) (kp : Nat) (hkp : kp < 4) (ekp : p_ &&& 3 = nI kp) (q_ : Int32) (kq : Nat) (hkq : kq < 4) (ekq : q_ &&& 3 = nI kq) (he : ∀ i, i < n → Rx kp i = Ry kq i) : Met l yX0_same (ws_ yX0_same cX0_same 6 (some .boolean)) wr_r3 (wr_Pc D dI dF [.ref qx, .int p_, .ref qy, .int q_, .int (nI n)] ws sz) (va_Qi (fun (r : Int32) (_ : Unit) => r = 1) (fun _ t => wr_B D (va_A ws sz) ws t) (va_A ws sz)) 0 0 (va_A ws sz) := by
  refine Met.ofW (cc := cX0_same) (maxL := 6) (ret := (some .boolean)) (by decide) rfl ?_
  intro p e s m args below meth c s₁ B hml hv
  obtain ⟨rfl, hsz, hP, hK, hD0⟩ := hv
  have hx := B.exec
  have hb := B.bytes
  have hr := B.returns
  have hts := atoms_spec (ws := ws_ yX0_same cX0_same 6 (some .boolean)) B.pre
  have hts : ∀ w ∈ lw_all, w.before _ s = true := fun w h => hts w (List.mem_cons_of_mem _ h)
  have hown : s.vm.findClass RX0 = some m.cls := findClass_of_methodNamed B.named
  have hlocks := B.notSynchronized
  subst hsz
  have hD := hD0.self (sz := s.heap.size)
  generalize hAe : va_A ws s.heap.size = A at hD ⊢
  have hA : ∀ q : Nat, s.heap.size ≤ q → A q := fun q h => by rw [← hAe]; exact Or.inr h
  have hS : va_S A s.heap s.heap [] := va_S.rf
  have hl := lv_entry ([.ref qx, .int p_, .ref qy, .int q_, .int (nI n)]) (n := 6) (Nat.le_of_ble_eq_true rfl)
  rw [lg_entry_eq]
  generalize (lg_sl ([.ref qx, .int p_, .ref qy, .int q_, .int (nI n)]) ++ List.replicate (6 - (lg_sl ([.ref qx, .int p_, .ref qy, .int q_, .int (nI n)])).length) Slot.unset).toArray = ls at hl ⊢
  have hl : lv_has ls 6 [(0, .ref qx), (1, .int p_), (2, .ref qy), (3, .int q_), (4, .int (nI n))] := hl
  have hB : n < 2 ^ 31 := by omega
  refine lv_iconst (v := nI 0) hx hb dX0_same_0 (by decide) ?_
  refine lv_istore (lv' := [(5, .int (nI 0)), (0, .ref qx), (1, .int p_), (2, .ref qy), (3, .int q_), (4, .int (nI n))]) hx hb dX0_same_1 hl (by decide) rfl (fun ls hl => ?_)
  have loop : ∀ (k i : Nat) (H : Heap) (locs : List Loc) (ls : Array Slot), i + k = n → va_P D vwCl ws H → va_D A ws → va_S A s.heap H locs → lv_has ls 6 [(5, .int (nI i)), (0, .ref qx), (1, .int p_), (2, .ref qy), (3, .int q_), (4, .int (nI n))] → W p l e (headSpec (ws_ yX0_same cX0_same 6 (some .boolean)) wr_r3).room s m (([.ref qx, .int p_, .ref qy, .int q_, .int (nI n)] : List Value).toArray) below meth c H locs 0 0 (MQ below (va_Qi (fun (r : Int32) (_ : Unit) => r = 1) (fun _ t => wr_B D A ws t) A) (([.ref qx, .int p_, .ref qy, .int q_, .int (nI n)] : List Value).toArray) s 0 0 A) (F0 m 3 ls []) := by
    intro k
    induction k with
    | zero =>
      intro i H locs ls hik hP hD hS hl
      have hin : i = n := by omega
      rw [hin] at hl
      refine lv_iload hx hb dX0_same_3 (lv_at hl 0 rfl) ?_
      refine lv_iload hx hb dX0_same_5 (lv_at hl 5 rfl) ?_
      refine lv_icmp_ge (tgt := 35) hx hb dX0_same_7 (by decide) (fun _ => ?_) (fun q_ => absurd (nI_le (Nat.le_refl n) hB) q_)
      refine lv_iconst (v := 1) hx hb dX0_same_35 (by decide) ?_
      exact wr_zret () hx hb hr hlocks rfl hP hD hS (rfl) (Nat.zero_le _) (Nat.zero_le _) dX0_same_36
    | succ k ih =>
      intro i H locs ls hik hP hD hS hl
      have hi : i < n := by omega
      refine lv_iload hx hb dX0_same_3 (lv_at hl 0 rfl) ?_
      refine lv_iload hx hb dX0_same_5 (lv_at hl 5 rfl) ?_
      refine lv_icmp_ge (tgt := 35) hx hb dX0_same_7 (by decide) (fun q_ => absurd q_ (nI_ge hi hB)) (fun _ => ?_)
      refine lv_aload_n hx hb dX0_same_10 rfl (lv_at hl 1 rfl) ?_
      refine lv_iload_n hx hb dX0_same_11 rfl (lv_at hl 2 rfl) ?_
      refine lv_iload hx hb dX0_same_12 (lv_at hl 0 rfl) ?_
      refine wr_calli0 hD hS hA (va_runV (As := [.int p_, .int (nI i)]) (rest := []) ⟨hx, hb, hml, hown, hts⟩ (f_wordN l D dI dF _ H.size _ _ _ _ _ hX hn1 hn2 _ kp (hkp) (ekp) (i) (hi)) (cwV 2 hts (lw_V q3 q4 q5 q1 q6) rfl rfl rfl (by decide +kernel) ⟨Nat.le_of_ble_eq_true rfl, Nat.le_of_ble_eq_true rfl⟩) (wf_preV hX hP hK hD) rfl rfl hl.1 rfl (lv_room (Nat.le_of_ble_eq_true rfl)) dX0_same_14 ⟨Nat.le_of_ble_eq_true rfl, Nat.le_of_ble_eq_true rfl⟩) (fun r_ u_ H locs hp hP hD hS => ?_)
      subst hp
      refine lv_aload_n hx hb dX0_same_17 rfl (lv_at hl 3 rfl) ?_
      refine lv_iload_n hx hb dX0_same_18 rfl (lv_at hl 4 rfl) ?_
      refine lv_iload hx hb dX0_same_19 (lv_at hl 0 rfl) ?_
      refine wr_calli0 hD hS hA (va_runV (As := [.int q_, .int (nI i)]) (rest := [.int (Rx kp (i))]) ⟨hx, hb, hml, hown, hts⟩ (f_wordN l D dI dF _ H.size _ _ _ _ _ hY hn1 hn2 _ kq (hkq) (ekq) (i) (hi)) (cwV 2 hts (lw_V q3 q4 q5 q1 q6) rfl rfl rfl (by decide +kernel) ⟨Nat.le_of_ble_eq_true rfl, Nat.le_of_ble_eq_true rfl⟩) (wf_preV hY hP hK hD) rfl rfl hl.1 rfl (lv_room (Nat.le_of_ble_eq_true rfl)) dX0_same_21 ⟨Nat.le_of_ble_eq_true rfl, Nat.le_of_ble_eq_true rfl⟩) (fun r_ u_ H locs hp hP hD hS => ?_)
      subst hp
      refine lv_icmp_eq (tgt := 29) hx hb dX0_same_24 (by decide) (fun _ => ?_) (fun q_ => absurd (he i hi) q_)
      refine lv_iinc (v := nI (i + 1)) (lv' := [(5, .int (nI (i + 1))), (0, .ref qx), (1, .int p_), (2, .ref qy), (3, .int q_), (4, .int (nI n))]) hx hb dX0_same_29 hl (k := 0) rfl (wn_inc i) (by decide) rfl (fun ls hl => ?_)
      refine lv_goto (tgt := 3) hx hb dX0_same_32 (by decide) ?_
      exact ih (i + 1) H locs ls (by omega) hP hD hS (lv_sub hl [0, 1, 2, 3, 4, 5] rfl)
  exact loop n 0 s.heap [] ls (by omega) hP hD hS (lv_sub hl [0, 1, 2, 3, 4, 5] rfl)

set_option maxHeartbeats 4000000 in
set_option maxRecDepth 100000 in
/-- the law: sameWide -/
theorem c_sameWide (l : Launch) (D : va_G) (dI dF : ClassId) (ws : va_W) (sz : Nat) (ox qx oy qy n : Nat) (Rx Ry : Nat → Nat → Int32) (wx wy : Nat → Int32) (hX : wf_at dI dF ws ox qx n Rx wx) (hY : wf_at dI dF ws oy qy n Ry wy) (hn1 : 1 ≤ n) (hn2 : n ≤ 16) (he : ∀ i, i < n + n → wx i = wy i) : Met l yX0_sameWide (ws_ yX0_sameWide cX0_sameWide 4 (some .boolean)) wr_r3 (wr_Pc D dI dF [.ref qx, .ref qy, .int (nI n)] ws sz) (va_Qi (fun (r : Int32) (_ : Unit) => r = 1) (fun _ t => wr_B D (va_A ws sz) ws t) (va_A ws sz)) 0 0 (va_A ws sz) := by
  refine Met.ofW (cc := cX0_sameWide) (maxL := 4) (ret := (some .boolean)) (by decide) rfl ?_
  intro p e s m args below meth c s₁ B hml hv
  obtain ⟨rfl, hsz, hP, hK, hD0⟩ := hv
  have hx := B.exec
  have hb := B.bytes
  have hr := B.returns
  have hts := atoms_spec (ws := ws_ yX0_sameWide cX0_sameWide 4 (some .boolean)) B.pre
  have hts : ∀ w ∈ lw_all, w.before _ s = true := fun w h => hts w (List.mem_cons_of_mem _ h)
  have hown : s.vm.findClass RX0 = some m.cls := findClass_of_methodNamed B.named
  have hlocks := B.notSynchronized
  subst hsz
  have hD := hD0.self (sz := s.heap.size)
  generalize hAe : va_A ws s.heap.size = A at hD ⊢
  have hA : ∀ q : Nat, s.heap.size ≤ q → A q := fun q h => by rw [← hAe]; exact Or.inr h
  have hS : va_S A s.heap s.heap [] := va_S.rf
  have hl := lv_entry ([.ref qx, .ref qy, .int (nI n)]) (n := 4) (Nat.le_of_ble_eq_true rfl)
  rw [lg_entry_eq]
  generalize (lg_sl ([.ref qx, .ref qy, .int (nI n)]) ++ List.replicate (4 - (lg_sl ([.ref qx, .ref qy, .int (nI n)])).length) Slot.unset).toArray = ls at hl ⊢
  have hl : lv_has ls 4 [(0, .ref qx), (1, .ref qy), (2, .int (nI n))] := hl
  have hB : n + n < 2 ^ 31 := by omega
  refine lv_iconst (v := nI 0) hx hb dX0_sameWide_0 (by decide) ?_
  refine lv_istore_n (lv' := [(3, .int (nI 0)), (0, .ref qx), (1, .ref qy), (2, .int (nI n))]) hx hb dX0_sameWide_1 rfl hl (by decide) rfl (fun ls hl => ?_)
  have loop : ∀ (k i : Nat) (H : Heap) (locs : List Loc) (ls : Array Slot), i + k = n + n → va_P D vwCl ws H → va_D A ws → va_S A s.heap H locs → lv_has ls 4 [(3, .int (nI i)), (0, .ref qx), (1, .ref qy), (2, .int (nI n))] → W p l e (headSpec (ws_ yX0_sameWide cX0_sameWide 4 (some .boolean)) wr_r3).room s m (([.ref qx, .ref qy, .int (nI n)] : List Value).toArray) below meth c H locs 0 0 (MQ below (va_Qi (fun (r : Int32) (_ : Unit) => r = 1) (fun _ t => wr_B D A ws t) A) (([.ref qx, .ref qy, .int (nI n)] : List Value).toArray) s 0 0 A) (F0 m 2 ls []) := by
    intro k
    induction k with
    | zero =>
      intro i H locs ls hik hP hD hS hl
      have hin : i = n + n := by omega
      rw [hin] at hl
      refine lv_iload_n hx hb dX0_sameWide_2 rfl (lv_at hl 0 rfl) ?_
      refine lv_iconst (v := nI 2) hx hb dX0_sameWide_3 (by decide) ?_
      refine lv_iload_n hx hb dX0_sameWide_4 rfl (lv_at hl 3 rfl) ?_
      refine lv_imul hx hb dX0_sameWide_5 ?_
      refine wr_topi (nI (n + n)) (by rw [pk_mul, show 2 * n = n + n by omega]) ?_
      refine lv_icmp_ge (tgt := 30) hx hb dX0_sameWide_6 (by decide) (fun _ => ?_) (fun q_ => absurd (nI_le (Nat.le_refl _) hB) q_)
      refine lv_iconst (v := 1) hx hb dX0_sameWide_30 (by decide) ?_
      exact wr_zret () hx hb hr hlocks rfl hP hD hS (rfl) (Nat.zero_le _) (Nat.zero_le _) dX0_sameWide_31
    | succ k ih =>
      intro i H locs ls hik hP hD hS hl
      have hi : i < n + n := by omega
      refine lv_iload_n hx hb dX0_sameWide_2 rfl (lv_at hl 0 rfl) ?_
      refine lv_iconst (v := nI 2) hx hb dX0_sameWide_3 (by decide) ?_
      refine lv_iload_n hx hb dX0_sameWide_4 rfl (lv_at hl 3 rfl) ?_
      refine lv_imul hx hb dX0_sameWide_5 ?_
      refine wr_topi (nI (n + n)) (by rw [pk_mul, show 2 * n = n + n by omega]) ?_
      refine lv_icmp_ge (tgt := 30) hx hb dX0_sameWide_6 (by decide) (fun q_ => absurd q_ (nI_ge hi hB)) (fun _ => ?_)
      refine lv_aload_n hx hb dX0_sameWide_9 rfl (lv_at hl 1 rfl) ?_
      refine lv_iload_n hx hb dX0_sameWide_10 rfl (lv_at hl 0 rfl) ?_
      refine wr_calli0 hD hS hA (va_runV (As := [.int (nI i)]) (rest := []) ⟨hx, hb, hml, hown, hts⟩ (f_wideN l D dI dF _ H.size _ _ _ _ _ hX hn1 hn2 (i) (hi)) (cwV 1 hts (lw_V q92 q93 q94 q1 q95) rfl rfl rfl (by decide +kernel) ⟨Nat.le_of_ble_eq_true rfl, Nat.le_of_ble_eq_true rfl⟩) (wf_preV hX hP hK hD) rfl rfl hl.1 rfl (lv_room (Nat.le_of_ble_eq_true rfl)) dX0_sameWide_11 ⟨Nat.le_of_ble_eq_true rfl, Nat.le_of_ble_eq_true rfl⟩) (fun r_ u_ H locs hp hP hD hS => ?_)
      subst hp
      refine lv_aload_n hx hb dX0_sameWide_14 rfl (lv_at hl 2 rfl) ?_
      refine lv_iload_n hx hb dX0_sameWide_15 rfl (lv_at hl 0 rfl) ?_
      refine wr_calli0 hD hS hA (va_runV (As := [.int (nI i)]) (rest := [.int (wx (i))]) ⟨hx, hb, hml, hown, hts⟩ (f_wideN l D dI dF _ H.size _ _ _ _ _ hY hn1 hn2 (i) (hi)) (cwV 1 hts (lw_V q92 q93 q94 q1 q95) rfl rfl rfl (by decide +kernel) ⟨Nat.le_of_ble_eq_true rfl, Nat.le_of_ble_eq_true rfl⟩) (wf_preV hY hP hK hD) rfl rfl hl.1 rfl (lv_room (Nat.le_of_ble_eq_true rfl)) dX0_sameWide_16 ⟨Nat.le_of_ble_eq_true rfl, Nat.le_of_ble_eq_true rfl⟩) (fun r_ u_ H locs hp hP hD hS => ?_)
      subst hp
      refine lv_icmp_eq (tgt := 24) hx hb dX0_sameWide_19 (by decide) (fun _ => ?_) (fun q_ => absurd (he i hi) q_)
      refine lv_iinc (v := nI (i + 1)) (lv' := [(3, .int (nI (i + 1))), (0, .ref qx), (1, .ref qy), (2, .int (nI n))]) hx hb dX0_sameWide_24 hl (k := 0) rfl (wn_inc i) (by decide) rfl (fun ls hl => ?_)
      refine lv_goto (tgt := 2) hx hb dX0_sameWide_27 (by decide) ?_
      exact ih (i + 1) H locs ls (by omega) hP hD hS (lv_sub hl [0, 1, 2, 3] rfl)
  exact loop (n + n) 0 s.heap [] ls (by omega) hP hD hS (lv_sub hl [0, 1, 2, 3] rfl)
end
section
/-! WholeFileLaw: added -/
set_option maxHeartbeats 4000000 in
set_option maxRecDepth 100000 in
/-- the law: added -/
theorem c_added (l : Launch) (D : va_G) (dI dF : ClassId) (ws : va_W) (sz : Nat) (b L : Nat) (xs : Nat → Int32) (hL : L < 2 ^ 31) : Met l yX0_added (ws_ yX0_added cX0_added 11 (some .boolean)) lw_rA (wr_PX D dI dF [.ref b] ws sz b L xs) (va_Qi (fun (r : Int32) (_ : Unit) => r = 1) (fun _ t => wr_B D (va_A ws sz) ws t) (va_A ws sz)) 40 409 (va_A ws sz) := by
  refine Met.ofW (cc := cX0_added) (maxL := 11) (ret := (some .boolean)) (by decide) rfl ?_
  intro p e s m args below meth c s₁ B hml hv
  obtain ⟨rfl, hsz, hP, hK, hD0, hX0, hbl, hbw⟩ := hv
  have hx := B.exec
  have hb := B.bytes
  have hr := B.returns
  have hts := atoms_spec (ws := ws_ yX0_added cX0_added 11 (some .boolean)) B.pre
  have hts : ∀ w ∈ lw_all, w.before _ s = true := fun w h => hts w (List.mem_cons_of_mem _ h)
  have hown : s.vm.findClass RX0 = some m.cls := findClass_of_methodNamed B.named
  have hlocks := B.notSynchronized
  subst hsz
  have hD := hD0.self (sz := s.heap.size)
  have hbA : ¬ va_A ws s.heap.size b := fun h => h.elim (fun ⟨k, e, h⟩ => hbw k e h) (fun h => absurd hbl (Nat.not_lt.mpr h))
  generalize hAe : va_A ws s.heap.size = A at hD hbA ⊢
  have hA : ∀ q : Nat, s.heap.size ≤ q → A q := fun q h => by rw [← hAe]; exact Or.inr h
  have hS : va_S A s.heap s.heap [] := va_S.rf
  have hl := lv_entry ([.ref b]) (n := 11) (Nat.le_of_ble_eq_true rfl)
  rw [lg_entry_eq]
  generalize (lg_sl ([.ref b]) ++ List.replicate (11 - (lg_sl ([.ref b])).length) Slot.unset).toArray = ls at hl ⊢
  have hl : lv_has ls 11 [(0, .ref b)] := hl
  obtain ⟨n, hn⟩ : ∃ n, n = lw_N L xs := ⟨_, rfl⟩
  obtain ⟨hn1, hn2⟩ := lw_N_in hn
  have hB : n < 2 ^ 31 := by omega
  have hB2 : n + n < 2 ^ 31 := by omega
  refine lv_aload_n hx hb dX0_added_0 rfl (lv_at hl 0 rfl) ?_
  refine wr_callr hD hS hA (va_runS (As := [.ref b]) (rest := []) ⟨hx, hb, hml, hown, hts⟩ (c_three l D dI dF _ s.heap.size b L xs hL n hn) (va_cwS 1 hts (lw_S q99 q100 q0 q101) rfl rfl rfl (by decide +kernel) ⟨Nat.le_of_ble_eq_true rfl, Nat.le_of_ble_eq_true rfl⟩) (wr_preX hX0 hbl hbA hP hK hD hS) rfl rfl hl.1 rfl (lv_room (Nat.le_of_ble_eq_true rfl)) dX0_added_1 ⟨Nat.le_of_ble_eq_true rfl, Nat.le_of_ble_eq_true rfl⟩) (fun u qX H locs hp hP hD hS => ?_)
  obtain ⟨hl_, hp_, RX, wX, hX, hRX⟩ := hp
  have hpre : ∀ j, j < ws.length → u[j]? = ws[j]? := hp_
  have hlen : u.length = ws.length + 7 := hl_
  refine lv_astore_n (lv' := [(1, .ref qX), (0, .ref b)]) hx hb dX0_added_4 rfl hl (by decide) rfl (fun ls hl => ?_)
  refine lv_aload_n hx hb dX0_added_5 rfl (lv_at hl 1 rfl) ?_
  refine wr_callr hD hS hA (va_runS (As := [.ref b]) (rest := []) ⟨hx, hb, hml, hown, hts⟩ (c_three l D dI dF _ H.size b L xs hL n hn) (va_cwS 1 hts (lw_S q99 q100 q0 q101) rfl rfl rfl (by decide +kernel) ⟨Nat.le_of_ble_eq_true rfl, Nat.le_of_ble_eq_true rfl⟩) (wr_preX hX0 hbl hbA hP hK hD hS) rfl rfl hl.1 rfl (lv_room (Nat.le_of_ble_eq_true rfl)) dX0_added_6 ⟨Nat.le_of_ble_eq_true rfl, Nat.le_of_ble_eq_true rfl⟩) (fun u qY H locs hp hP hD hS => ?_)
  obtain ⟨hl_, hp_, RY, wY, hY, hRY⟩ := hp
  rw [hlen] at hl_ hY
  have hX := wf_mono hX (fun j _ h8 => hp_ j (by omega))
  have hpre : ∀ j, j < ws.length → u[j]? = ws[j]? := fun j hj => (hp_ j (by omega)).trans (hpre j hj)
  have hlen : u.length = ws.length + 14 := by omega
  refine lv_astore_n (lv' := [(2, .ref qY), (1, .ref qX), (0, .ref b)]) hx hb dX0_added_9 rfl hl (by decide) rfl (fun ls hl => ?_)
  refine lv_aload_n hx hb dX0_added_10 rfl (lv_at hl 2 rfl) ?_
  refine wr_callr hD hS hA (va_runS (As := [.ref b]) (rest := []) ⟨hx, hb, hml, hown, hts⟩ (c_three l D dI dF _ H.size b L xs hL n hn) (va_cwS 1 hts (lw_S q99 q100 q0 q101) rfl rfl rfl (by decide +kernel) ⟨Nat.le_of_ble_eq_true rfl, Nat.le_of_ble_eq_true rfl⟩) (wr_preX hX0 hbl hbA hP hK hD hS) rfl rfl hl.1 rfl (lv_room (Nat.le_of_ble_eq_true rfl)) dX0_added_11 ⟨Nat.le_of_ble_eq_true rfl, Nat.le_of_ble_eq_true rfl⟩) (fun u qZ H locs hp hP hD hS => ?_)
  obtain ⟨hl_, hp_, RZ, wZ, hZ, hRZ⟩ := hp
  rw [hlen] at hl_ hZ
  have hX := wf_mono hX (fun j _ h8 => hp_ j (by omega))
  have hY := wf_mono hY (fun j _ h8 => hp_ j (by omega))
  have hpre : ∀ j, j < ws.length → u[j]? = ws[j]? := fun j hj => (hp_ j (by omega)).trans (hpre j hj)
  have hlen : u.length = ws.length + 21 := by omega
  refine lv_astore_n (lv' := [(3, .ref qZ), (2, .ref qY), (1, .ref qX), (0, .ref b)]) hx hb dX0_added_14 rfl hl (by decide) rfl (fun ls hl => ?_)
  refine W.widen (k := 39) (n := 393) (Nat.le_of_ble_eq_true rfl) (Nat.le_of_ble_eq_true rfl) ?_
  refine lv_iconst (v := nI 1) hx hb dX0_added_15 (by decide) ?_
  refine lv_aload_n hx hb dX0_added_16 rfl (lv_at hl 3 rfl) ?_
  refine lv_iconst (v := nI 0) hx hb dX0_added_17 (by decide) ?_
  refine wr_calli0 hD hS hA (va_runS (As := [.ref b, .int (nI 0)]) (rest := [.int (nI 1)]) ⟨hx, hb, hml, hown, hts⟩ (c_cell l D dI dF _ H.size b L xs (0) (by decide) hL) (va_cwS 2 hts (lw_S q96 q97 q0 q98) rfl rfl rfl (by decide +kernel) ⟨Nat.le_of_ble_eq_true rfl, Nat.le_of_ble_eq_true rfl⟩) (wr_preX hX0 hbl hbA hP hK hD hS) rfl rfl hl.1 rfl (lv_room (Nat.le_of_ble_eq_true rfl)) dX0_added_18 ⟨Nat.le_of_ble_eq_true rfl, Nat.le_of_ble_eq_true rfl⟩) (fun r_ u_ H locs hp hP hD hS => ?_)
  subst hp
  refine lv_bipush (v := 15) hx hb dX0_added_21 (by decide) ?_
  refine lv_iand hx hb dX0_added_23 ?_
  refine wr_topi (nI (wn_w (lw_cl L xs 0) % 16)) (wf_and15 _) ?_
  refine lv_iadd hx hb dX0_added_24 ?_
  refine wr_topi (nI n) (by rw [nI_add, hn]; rfl) ?_
  refine lv_istore (lv' := [(4, .int (nI n)), (3, .ref qZ), (2, .ref qY), (1, .ref qX), (0, .ref b)]) hx hb dX0_added_25 hl (by decide) rfl (fun ls hl => ?_)
  refine lv_aload_n hx hb dX0_added_27 rfl (lv_at hl 4 rfl) ?_
  refine lv_bipush (v := nI 17) hx hb dX0_added_28 (by decide) ?_
  refine wr_calli0 hD hS hA (va_runS (As := [.ref b, .int (nI 17)]) (rest := []) ⟨hx, hb, hml, hown, hts⟩ (c_cell l D dI dF _ H.size b L xs (17) (by decide) hL) (va_cwS 2 hts (lw_S q96 q97 q0 q98) rfl rfl rfl (by decide +kernel) ⟨Nat.le_of_ble_eq_true rfl, Nat.le_of_ble_eq_true rfl⟩) (wr_preX hX0 hbl hbA hP hK hD hS) rfl rfl hl.1 rfl (lv_room (Nat.le_of_ble_eq_true rfl)) dX0_added_30 ⟨Nat.le_of_ble_eq_true rfl, Nat.le_of_ble_eq_true rfl⟩) (fun r_ u_ H locs hp hP hD hS => ?_)
  subst hp
  refine lv_istore (lv' := [(5, .int (lw_cl L xs (17))), (4, .int (nI n)), (3, .ref qZ), (2, .ref qY), (1, .ref qX), (0, .ref b)]) hx hb dX0_added_33 hl (by decide) rfl (fun ls hl => ?_)
  refine lv_aload_n hx hb dX0_added_35 rfl (lv_at hl 5 rfl) ?_
  refine lv_iconst (v := nI 2) hx hb dX0_added_36 (by decide) ?_
  refine wr_calli0 hD hS hA (va_runS (As := [.ref b, .int (nI 2)]) (rest := []) ⟨hx, hb, hml, hown, hts⟩ (c_cell l D dI dF _ H.size b L xs (2) (by decide) hL) (va_cwS 2 hts (lw_S q96 q97 q0 q98) rfl rfl rfl (by decide +kernel) ⟨Nat.le_of_ble_eq_true rfl, Nat.le_of_ble_eq_true rfl⟩) (wr_preX hX0 hbl hbA hP hK hD hS) rfl rfl hl.1 rfl (lv_room (Nat.le_of_ble_eq_true rfl)) dX0_added_37 ⟨Nat.le_of_ble_eq_true rfl, Nat.le_of_ble_eq_true rfl⟩) (fun r_ u_ H locs hp hP hD hS => ?_)
  subst hp
  refine lv_istore (lv' := [(6, .int (lw_cl L xs (2))), (5, .int (lw_cl L xs (17))), (4, .int (nI n)), (3, .ref qZ), (2, .ref qY), (1, .ref qX), (0, .ref b)]) hx hb dX0_added_40 hl (by decide) rfl (fun ls hl => ?_)
  obtain ⟨wd, hwd⟩ : ∃ wd, wd = lw_cl L xs (17) := ⟨_, rfl⟩
  rw [← hwd] at hl
  obtain ⟨hi_, hhi⟩ : ∃ hi_, hi_ = lw_cl L xs (2) := ⟨_, rfl⟩
  rw [← hhi] at hl
  refine lv_aload_n hx hb dX0_added_42 rfl (lv_at hl 5 rfl) ?_
  refine lv_iconst (v := 0) hx hb dX0_added_43 (by decide) ?_
  refine lv_iconst (v := 1) hx hb dX0_added_44 (by decide) ?_
  refine wr_callv0 hD hS hA (va_runV (As := [.int 0, .int 1]) (rest := []) ⟨hx, hb, hml, hown, hts⟩ (f_multiply l D dI dF _ H.size _ _ _ _ _ hX hn1 hn2 0 0 (by decide) (by decide) 1 1 (by decide) (by decide)) (cwV 2 hts (lw_V q22 q23 q24 q1 q25) rfl rfl rfl (by decide +kernel) ⟨Nat.le_of_ble_eq_true rfl, Nat.le_of_ble_eq_true rfl⟩) (wf_preV hX hP hK hD) rfl rfl hl.1 rfl (lv_room (Nat.le_of_ble_eq_true rfl)) dX0_added_45 ⟨Nat.le_of_ble_eq_true rfl, Nat.le_of_ble_eq_true rfl⟩) (fun u H locs hp hP hD hS => ?_)
  obtain ⟨wX1, hwX1, hp⟩ := hp
  have hY := wf_keep hp hY (by omega)
  have hZ := wf_keep hp hZ (by omega)
  have hpre : ∀ j, j < ws.length → u[j]? = ws[j]? := fun j hj => (hp.2.1 j (Or.inl (by omega))).trans (hpre j hj)
  have hlen : u.length = ws.length + 21 := hp.1.trans hlen
  have hX := hp.2.2
  refine lv_aload_n hx hb dX0_added_48 rfl (lv_at hl 4 rfl) ?_
  refine lv_iconst (v := 0) hx hb dX0_added_49 (by decide) ?_
  refine lv_iconst (v := 1) hx hb dX0_added_50 (by decide) ?_
  refine wr_callv0 hD hS hA (va_runV (As := [.int 0, .int 1]) (rest := []) ⟨hx, hb, hml, hown, hts⟩ (f_multiply l D dI dF _ H.size _ _ _ _ _ hY hn1 hn2 0 0 (by decide) (by decide) 1 1 (by decide) (by decide)) (cwV 2 hts (lw_V q22 q23 q24 q1 q25) rfl rfl rfl (by decide +kernel) ⟨Nat.le_of_ble_eq_true rfl, Nat.le_of_ble_eq_true rfl⟩) (wf_preV hY hP hK hD) rfl rfl hl.1 rfl (lv_room (Nat.le_of_ble_eq_true rfl)) dX0_added_51 ⟨Nat.le_of_ble_eq_true rfl, Nat.le_of_ble_eq_true rfl⟩) (fun u H locs hp hP hD hS => ?_)
  obtain ⟨wY1, hwY1, hp⟩ := hp
  have hX := wf_keep hp hX (by omega)
  have hZ := wf_keep hp hZ (by omega)
  have hpre : ∀ j, j < ws.length → u[j]? = ws[j]? := fun j hj => (hp.2.1 j (Or.inl (by omega))).trans (hpre j hj)
  have hlen : u.length = ws.length + 21 := hp.1.trans hlen
  have hY := hp.2.2
  refine lv_aload_n hx hb dX0_added_54 rfl (lv_at hl 3 rfl) ?_
  refine lv_iconst (v := 0) hx hb dX0_added_55 (by decide) ?_
  refine lv_iconst (v := 2) hx hb dX0_added_56 (by decide) ?_
  refine wr_callv0 hD hS hA (va_runV (As := [.int 0, .int 2]) (rest := []) ⟨hx, hb, hml, hown, hts⟩ (f_multiply l D dI dF _ H.size _ _ _ _ _ hZ hn1 hn2 0 0 (by decide) (by decide) 2 2 (by decide) (by decide)) (cwV 2 hts (lw_V q22 q23 q24 q1 q25) rfl rfl rfl (by decide +kernel) ⟨Nat.le_of_ble_eq_true rfl, Nat.le_of_ble_eq_true rfl⟩) (wf_preV hZ hP hK hD) rfl rfl hl.1 rfl (lv_room (Nat.le_of_ble_eq_true rfl)) dX0_added_57 ⟨Nat.le_of_ble_eq_true rfl, Nat.le_of_ble_eq_true rfl⟩) (fun u H locs hp hP hD hS => ?_)
  obtain ⟨wZ1, hwZ1, hp⟩ := hp
  have hX := wf_keep hp hX (by omega)
  have hY := wf_keep hp hY (by omega)
  have hpre : ∀ j, j < ws.length → u[j]? = ws[j]? := fun j hj => (hp.2.1 j (Or.inl (by omega))).trans (hpre j hj)
  have hlen : u.length = ws.length + 21 := hp.1.trans hlen
  have hZ := hp.2.2
  refine lv_aload_n hx hb dX0_added_60 rfl (lv_at hl 5 rfl) ?_
  refine lv_iconst (v := 0) hx hb dX0_added_61 (by decide) ?_
  refine lv_iconst (v := 2) hx hb dX0_added_62 (by decide) ?_
  refine wr_calli0 hD hS hA (va_runV (As := [.int 0, .int 2]) (rest := []) ⟨hx, hb, hml, hown, hts⟩ (f_multiplyAdd l D dI dF _ H.size _ _ _ _ _ hX hn1 hn2 0 0 (by decide) (by decide) 2 2 (by decide) (by decide)) (cwV 2 hts (lw_V q48 q49 q50 q1 q51) rfl rfl rfl (by decide +kernel) ⟨Nat.le_of_ble_eq_true rfl, Nat.le_of_ble_eq_true rfl⟩) (wf_preV hX hP hK hD) rfl rfl hl.1 rfl (lv_room (Nat.le_of_ble_eq_true rfl)) dX0_added_63 ⟨Nat.le_of_ble_eq_true rfl, Nat.le_of_ble_eq_true rfl⟩) (fun r_ u H locs hp hP hD hS => ?_)
  obtain ⟨wX2, cwX2, hc1_, hcwX2, hwX2, hp⟩ := hp
  have hY := wf_keep hp hY (by omega)
  have hZ := wf_keep hp hZ (by omega)
  have hpre : ∀ j, j < ws.length → u[j]? = ws[j]? := fun j hj => (hp.2.1 j (Or.inl (by omega))).trans (hpre j hj)
  have hlen : u.length = ws.length + 21 := hp.1.trans hlen
  have hX := hp.2.2
  subst hcwX2
  refine lv_istore (lv' := [(7, .int (nI cwX2)), (6, .int hi_), (5, .int wd), (4, .int (nI n)), (3, .ref qZ), (2, .ref qY), (1, .ref qX), (0, .ref b)]) hx hb dX0_added_66 hl (by decide) rfl (fun ls hl => ?_)
  have vX0 : wn_v (wn_d (RX 0)) n = wn_v (wn_d (lw_T L xs 0)) n := lw_val (fun j hj => hRX 0 j (by decide) hj)
  have vX1 : wn_v (wn_d (RX 1)) n = wn_v (wn_d (lw_T L xs 1)) n := lw_val (fun j hj => hRX 1 j (by decide) hj)
  have vX2 : wn_v (wn_d (RX 2)) n = wn_v (wn_d (lw_T L xs 2)) n := lw_val (fun j hj => hRX 2 j (by decide) hj)
  have vY0 : wn_v (wn_d (RY 0)) n = wn_v (wn_d (lw_T L xs 0)) n := lw_val (fun j hj => hRY 0 j (by decide) hj)
  have vY1 : wn_v (wn_d (RY 1)) n = wn_v (wn_d (lw_T L xs 1)) n := lw_val (fun j hj => hRY 1 j (by decide) hj)
  have vZ0 : wn_v (wn_d (RZ 0)) n = wn_v (wn_d (lw_T L xs 0)) n := lw_val (fun j hj => hRZ 0 j (by decide) hj)
  have vZ2 : wn_v (wn_d (RZ 2)) n = wn_v (wn_d (lw_T L xs 2)) n := lw_val (fun j hj => hRZ 2 j (by decide) hj)
  obtain ⟨hU, hUc⟩ := lw_add_uniq (f := wX2) (y := wY1) (z := wZ1) (m := n + n) (c := cwX2) (by rw [hwX2, hwX1, hwY1, hwZ1, vX0, vX1, vX2, vY0, vY1, vZ0, vZ2])
  refine lv_lconst (v := lN 0) hx hb dX0_added_68 (by decide) ?_
  refine lv_lstore (lv' := [(8, .long (lN 0)), (7, .int (nI cwX2)), (6, .int hi_), (5, .int wd), (4, .int (nI n)), (3, .ref qZ), (2, .ref qY), (1, .ref qX), (0, .ref b)]) hx hb dX0_added_69 hl (by decide) rfl (fun ls hl => ?_)
  refine lv_iconst (v := nI 0) hx hb dX0_added_71 (by decide) ?_
  refine lv_istore (lv' := [(10, .int (nI 0)), (8, .long (lN 0)), (7, .int (nI cwX2)), (6, .int hi_), (5, .int wd), (4, .int (nI n)), (3, .ref qZ), (2, .ref qY), (1, .ref qX), (0, .ref b)]) hx hb dX0_added_72 hl (by decide) rfl (fun ls hl => ?_)
  have loop1 : ∀ (k i : Nat) (H : Heap) (locs : List Loc) (ls : Array Slot), i + k = (n + n) → va_P D vwCl u H → va_D A u → va_S A s.heap H locs → lv_has ls 11 [(10, .int (nI i)), (8, .long (lN (wn_c (wn_gA wY1 wZ1) i))), (7, .int (nI cwX2)), (0, .ref b), (1, .ref qX), (2, .ref qY), (3, .ref qZ), (4, .int (nI n)), (5, .int wd), (6, .int hi_)] → (∀ (H : Heap) (locs : List Loc) (ls : Array Slot), va_P D vwCl u H → va_D A u → va_S A s.heap H locs → lv_has ls 11 [(10, .int (nI (n + n))), (8, .long (lN (wn_c (wn_gA wY1 wZ1) (n + n)))), (7, .int (nI cwX2)), (0, .ref b), (1, .ref qX), (2, .ref qY), (3, .ref qZ), (4, .int (nI n)), (5, .int wd), (6, .int hi_)] → W p l e (headSpec (ws_ yX0_added cX0_added 11 (some .boolean)) lw_rA).room s m (([.ref b] : List Value).toArray) below meth c H locs 39 393 (MQ below (va_Qi (fun (r : Int32) (_ : Unit) => r = 1) (fun _ t => wr_B D A ws t) A) (([.ref b] : List Value).toArray) s 40 409 A) (F0 m 138 ls [])) → W p l e (headSpec (ws_ yX0_added cX0_added 11 (some .boolean)) lw_rA).room s m (([.ref b] : List Value).toArray) below meth c H locs 39 393 (MQ below (va_Qi (fun (r : Int32) (_ : Unit) => r = 1) (fun _ t => wr_B D A ws t) A) (([.ref b] : List Value).toArray) s 40 409 A) (F0 m 74 ls []) := by
    intro k
    induction k with
    | zero =>
      intro i H locs ls hik hP hD hS hl kk
      have hin : i = (n + n) := by omega
      rw [hin] at hl
      refine lv_iload hx hb dX0_added_74 (lv_at hl 0 rfl) ?_
      refine lv_iconst (v := nI 2) hx hb dX0_added_76 (by decide) ?_
      refine lv_iload hx hb dX0_added_77 (lv_at hl 7 rfl) ?_
      refine lv_imul hx hb dX0_added_79 ?_
      refine wr_topi (nI (n + n)) (by rw [pk_mul, show 2 * n = n + n by omega]) ?_
      refine lv_icmp_ge (tgt := 138) hx hb dX0_added_80 (by decide) (fun _ => ?_) (fun q_ => absurd (nI_le (Nat.le_refl _) hB2) q_)
      exact kk H locs ls hP hD hS (lv_sub hl [0, 1, 2, 3, 4, 5, 6, 7, 8, 9] rfl)
    | succ k ih =>
      intro i H locs ls hik hP hD hS hl kk
      have hi : i < (n + n) := by omega
      refine lv_iload hx hb dX0_added_74 (lv_at hl 0 rfl) ?_
      refine lv_iconst (v := nI 2) hx hb dX0_added_76 (by decide) ?_
      refine lv_iload hx hb dX0_added_77 (lv_at hl 7 rfl) ?_
      refine lv_imul hx hb dX0_added_79 ?_
      refine wr_topi (nI (n + n)) (by rw [pk_mul, show 2 * n = n + n by omega]) ?_
      refine lv_icmp_ge (tgt := 138) hx hb dX0_added_80 (by decide) (fun q_ => absurd q_ (nI_ge hi hB2)) (fun _ => ?_)
      refine lv_lload hx hb dX0_added_83 (lv_at hl 1 rfl) ?_
      refine lv_aload_n hx hb dX0_added_85 rfl (lv_at hl 5 rfl) ?_
      refine lv_iload hx hb dX0_added_86 (lv_at hl 0 rfl) ?_
      refine wr_calli0 hD hS hA (va_runV (As := [.int (nI i)]) (rest := [.long (lN (wn_c (wn_gA wY1 wZ1) i))]) ⟨hx, hb, hml, hown, hts⟩ (f_wideN l D dI dF _ H.size _ _ _ _ _ hY hn1 hn2 (i) (hi)) (cwV 1 hts (lw_V q92 q93 q94 q1 q95) rfl rfl rfl (by decide +kernel) ⟨Nat.le_of_ble_eq_true rfl, Nat.le_of_ble_eq_true rfl⟩) (wf_preV hY hP hK hD) rfl rfl hl.1 rfl (lv_room (Nat.le_of_ble_eq_true rfl)) dX0_added_88 ⟨Nat.le_of_ble_eq_true rfl, Nat.le_of_ble_eq_true rfl⟩) (fun r_ u_ H locs hp hP hD hS => ?_)
      subst hp
      refine lv_i2l (v := (wY1 (i)).toInt64) hx hb dX0_added_91 (rfl) ?_
      refine lv_ldc2 (v := 4294967295) hx hb hown (hts _ q140) dX0_added_92 ?_
      refine lv_land hx hb dX0_added_95 ?_
      refine wr_topl (lN (wn_w (wY1 i))) (wn_i2l _) ?_
      refine lv_aload_n hx hb dX0_added_96 rfl (lv_at hl 6 rfl) ?_
      refine lv_iload hx hb dX0_added_97 (lv_at hl 0 rfl) ?_
      refine wr_calli0 hD hS hA (va_runV (As := [.int (nI i)]) (rest := [.long (lN (wn_w (wY1 i))), .long (lN (wn_c (wn_gA wY1 wZ1) i))]) ⟨hx, hb, hml, hown, hts⟩ (f_wideN l D dI dF _ H.size _ _ _ _ _ hZ hn1 hn2 (i) (hi)) (cwV 1 hts (lw_V q92 q93 q94 q1 q95) rfl rfl rfl (by decide +kernel) ⟨Nat.le_of_ble_eq_true rfl, Nat.le_of_ble_eq_true rfl⟩) (wf_preV hZ hP hK hD) rfl rfl hl.1 rfl (lv_room (Nat.le_of_ble_eq_true rfl)) dX0_added_99 ⟨Nat.le_of_ble_eq_true rfl, Nat.le_of_ble_eq_true rfl⟩) (fun r_ u_ H locs hp hP hD hS => ?_)
      subst hp
      refine lv_i2l (v := (wZ1 (i)).toInt64) hx hb dX0_added_102 (rfl) ?_
      refine lv_ldc2 (v := 4294967295) hx hb hown (hts _ q140) dX0_added_103 ?_
      refine lv_land hx hb dX0_added_106 ?_
      refine wr_topl (lN (wn_w (wZ1 i))) (wn_i2l _) ?_
      refine lv_ladd hx hb dX0_added_107 ?_
      refine wr_topl (lN ((wn_gA wY1 wZ1) i)) (lN_add _ _) ?_
      refine lv_ladd hx hb dX0_added_108 ?_
      refine wr_topl (lN (wn_c (wn_gA wY1 wZ1) i + (wn_gA wY1 wZ1) i)) (lN_add _ _) ?_
      refine lv_lstore (lv' := [(8, .long (lN (wn_c (wn_gA wY1 wZ1) i + (wn_gA wY1 wZ1) i))), (10, .int (nI i)), (7, .int (nI cwX2)), (0, .ref b), (1, .ref qX), (2, .ref qY), (3, .ref qZ), (4, .int (nI n)), (5, .int wd), (6, .int hi_)]) hx hb dX0_added_109 hl (by decide) rfl (fun ls hl => ?_)
      refine lv_aload_n hx hb dX0_added_111 rfl (lv_at hl 4 rfl) ?_
      refine lv_iload hx hb dX0_added_112 (lv_at hl 1 rfl) ?_
      refine wr_calli0 hD hS hA (va_runV (As := [.int (nI i)]) (rest := []) ⟨hx, hb, hml, hown, hts⟩ (f_wideN l D dI dF _ H.size _ _ _ _ _ hX hn1 hn2 (i) (hi)) (cwV 1 hts (lw_V q92 q93 q94 q1 q95) rfl rfl rfl (by decide +kernel) ⟨Nat.le_of_ble_eq_true rfl, Nat.le_of_ble_eq_true rfl⟩) (wf_preV hX hP hK hD) rfl rfl hl.1 rfl (lv_room (Nat.le_of_ble_eq_true rfl)) dX0_added_114 ⟨Nat.le_of_ble_eq_true rfl, Nat.le_of_ble_eq_true rfl⟩) (fun r_ u_ H locs hp hP hD hS => ?_)
      subst hp
      refine lv_lload hx hb dX0_added_117 (lv_at hl 0 rfl) ?_
      refine lv_l2i (v := wn_cw (wn_gA wY1 wZ1) i) hx hb dX0_added_119 (lN_i _) ?_
      refine lv_icmp_eq (tgt := 125) hx hb dX0_added_120 (by decide) (fun _ => ?_) (fun q_ => absurd (hU i hi) q_)
      refine lv_lload hx hb dX0_added_125 (lv_at hl 0 rfl) ?_
      refine lv_bipush (v := 32) hx hb dX0_added_127 (by decide) ?_
      refine lv_lushr (v := lN (wn_c (wn_gA wY1 wZ1) (i + 1))) hx hb dX0_added_129 (wn_shr32 (by have h8 := wn_c_le1 (wn_gA_le wY1 wZ1) i; have h9 := wn_gA_le wY1 wZ1 i; omega)) ?_
      refine lv_lstore (lv' := [(8, .long (lN (wn_c (wn_gA wY1 wZ1) (i + 1)))), (10, .int (nI i)), (7, .int (nI cwX2)), (0, .ref b), (1, .ref qX), (2, .ref qY), (3, .ref qZ), (4, .int (nI n)), (5, .int wd), (6, .int hi_)]) hx hb dX0_added_130 hl (by decide) rfl (fun ls hl => ?_)
      refine lv_iinc (v := nI (i + 1)) (lv' := [(10, .int (nI (i + 1))), (8, .long (lN (wn_c (wn_gA wY1 wZ1) (i + 1)))), (7, .int (nI cwX2)), (0, .ref b), (1, .ref qX), (2, .ref qY), (3, .ref qZ), (4, .int (nI n)), (5, .int wd), (6, .int hi_)]) hx hb dX0_added_132 hl (k := 1) rfl (wn_inc i) (by decide) rfl (fun ls hl => ?_)
      refine lv_goto (tgt := 74) hx hb dX0_added_135 (by decide) ?_
      exact ih (i + 1) H locs ls (by omega) hP hD hS (lv_sub hl [0, 1, 2, 3, 4, 5, 6, 7, 8, 9] rfl) kk
  refine loop1 ((n + n)) 0 H locs ls (by omega) hP hD hS (lv_sub hl [0, 1, 2, 9, 8, 7, 6, 5, 4, 3] rfl) ?_
  clear loop1
  intro H locs ls hP hD hS hl
  refine lv_iload hx hb dX0_added_138 (lv_at hl 2 rfl) ?_
  refine lv_lload hx hb dX0_added_140 (lv_at hl 1 rfl) ?_
  refine lv_l2i (v := nI (wn_c (wn_gA wY1 wZ1) (n + n))) hx hb dX0_added_142 (lN_i _) ?_
  refine lv_icmp_eq (tgt := 148) hx hb dX0_added_143 (by decide) (fun _ => ?_) (fun q_ => absurd (by rw [hUc]) q_)
  obtain ⟨bb, hbb⟩ : ∃ bb, bb = wn_w hi_ % 2 := ⟨_, rfl⟩
  have eb : hi_ &&& 1 = nI bb := by rw [hbb]; exact lw_and1 _
  have hb1 : bb ≤ 1 := by omega
  obtain ⟨bc, hbc⟩ : ∃ bc, bc = wn_w (hi_ + 1) % 2 := ⟨_, rfl⟩
  have ec : (hi_ + 1) &&& 1 = nI bc := by rw [hbc]; exact lw_and1 _
  have hc1 : bc ≤ 1 := by omega
  have hbn : bb * n ≤ n := by have h8 := Nat.mul_le_mul_right n hb1; omega
  have hcn : bc * n ≤ n := by have h8 := Nat.mul_le_mul_right n hc1; omega
  refine lv_aload_n hx hb dX0_added_148 rfl (lv_at hl 4 rfl) ?_
  refine lv_iconst (v := 3) hx hb dX0_added_149 (by decide) ?_
  refine lv_iload hx hb dX0_added_150 (lv_at hl 9 rfl) ?_
  refine wr_callv0 hD hS hA (va_runV (As := [.int 3, .int hi_]) (rest := []) ⟨hx, hb, hml, hown, hts⟩ (f_half l D dI dF _ H.size _ _ _ _ _ hX hn1 hn2 3 3 (by decide) (by decide) hi_ bb hb1 eb) (cwV 2 hts (lw_V q141 q142 q143 q1 q144) rfl rfl rfl (by decide +kernel) ⟨Nat.le_of_ble_eq_true rfl, Nat.le_of_ble_eq_true rfl⟩) (wf_preV hX hP hK hD) rfl rfl hl.1 rfl (lv_room (Nat.le_of_ble_eq_true rfl)) dX0_added_152 ⟨Nat.le_of_ble_eq_true rfl, Nat.le_of_ble_eq_true rfl⟩) (fun u H locs hp hP hD hS => ?_)
  have hY := wf_keep hp hY (by omega)
  have hZ := wf_keep hp hZ (by omega)
  have hpre : ∀ j, j < ws.length → u[j]? = ws[j]? := fun j hj => (hp.2.1 j (Or.inl (by omega))).trans (hpre j hj)
  have hlen : u.length = ws.length + 21 := hp.1.trans hlen
  have hX := hp.2.2
  obtain ⟨RX1, eRX1⟩ : ∃ z_, z_ = va_up RX 3 (wr_f (fun j => wX2 (bb * n + j)) (RX 3) n) := ⟨_, rfl⟩
  rw [← eRX1] at hX
  refine lv_aload_n hx hb dX0_added_155 rfl (lv_at hl 4 rfl) ?_
  refine lv_iconst (v := 1) hx hb dX0_added_156 (by decide) ?_
  refine lv_iload hx hb dX0_added_157 (lv_at hl 9 rfl) ?_
  refine lv_iconst (v := 1) hx hb dX0_added_159 (by decide) ?_
  refine lv_iadd hx hb dX0_added_160 ?_
  refine wr_callv0 hD hS hA (va_runV (As := [.int 1, .int (hi_ + 1)]) (rest := []) ⟨hx, hb, hml, hown, hts⟩ (f_half l D dI dF _ H.size _ _ _ _ _ hX hn1 hn2 1 1 (by decide) (by decide) (hi_ + 1) bc hc1 ec) (cwV 2 hts (lw_V q141 q142 q143 q1 q144) rfl rfl rfl (by decide +kernel) ⟨Nat.le_of_ble_eq_true rfl, Nat.le_of_ble_eq_true rfl⟩) (wf_preV hX hP hK hD) rfl rfl hl.1 rfl (lv_room (Nat.le_of_ble_eq_true rfl)) dX0_added_161 ⟨Nat.le_of_ble_eq_true rfl, Nat.le_of_ble_eq_true rfl⟩) (fun u H locs hp hP hD hS => ?_)
  have hY := wf_keep hp hY (by omega)
  have hZ := wf_keep hp hZ (by omega)
  have hpre : ∀ j, j < ws.length → u[j]? = ws[j]? := fun j hj => (hp.2.1 j (Or.inl (by omega))).trans (hpre j hj)
  have hlen : u.length = ws.length + 21 := hp.1.trans hlen
  have hX := hp.2.2
  obtain ⟨RX2, eRX2⟩ : ∃ z_, z_ = va_up RX1 1 (wr_f (fun j => wX2 (bc * n + j)) (RX1 1) n) := ⟨_, rfl⟩
  rw [← eRX2] at hX
  have r3 : ∀ i, i < n → RX2 3 i = wX2 (bb * n + i) := fun i hi => by rw [eRX2, eRX1]; simp [va_up, wr_f, hi]
  have r1 : ∀ i, i < n → RX2 1 i = wX2 (bc * n + i) := fun i hi => by rw [eRX2]; simp [va_up, wr_f, hi]
  refine lv_iconst (v := nI 0) hx hb dX0_added_164 (by decide) ?_
  refine lv_istore (lv' := [(10, .int (nI 0)), (8, .long (lN (wn_c (wn_gA wY1 wZ1) (n + n)))), (7, .int (nI cwX2)), (0, .ref b), (1, .ref qX), (2, .ref qY), (3, .ref qZ), (4, .int (nI n)), (5, .int wd), (6, .int hi_)]) hx hb dX0_added_165 hl (by decide) rfl (fun ls hl => ?_)
  have loop2 : ∀ (k i : Nat) (H : Heap) (locs : List Loc) (ls : Array Slot), i + k = n → va_P D vwCl u H → va_D A u → va_S A s.heap H locs → lv_has ls 11 [(10, .int (nI i)), (0, .ref b), (1, .ref qX), (2, .ref qY), (3, .ref qZ), (4, .int (nI n)), (5, .int wd), (6, .int hi_)] → (∀ (H : Heap) (locs : List Loc) (ls : Array Slot), va_P D vwCl u H → va_D A u → va_S A s.heap H locs → lv_has ls 11 [(10, .int (nI n)), (0, .ref b), (1, .ref qX), (2, .ref qY), (3, .ref qZ), (4, .int (nI n)), (5, .int wd), (6, .int hi_)] → W p l e (headSpec (ws_ yX0_added cX0_added 11 (some .boolean)) lw_rA).room s m (([.ref b] : List Value).toArray) below meth c H locs 39 393 (MQ below (va_Qi (fun (r : Int32) (_ : Unit) => r = 1) (fun _ t => wr_B D A ws t) A) (([.ref b] : List Value).toArray) s 40 409 A) (F0 m 232 ls [])) → W p l e (headSpec (ws_ yX0_added cX0_added 11 (some .boolean)) lw_rA).room s m (([.ref b] : List Value).toArray) below meth c H locs 39 393 (MQ below (va_Qi (fun (r : Int32) (_ : Unit) => r = 1) (fun _ t => wr_B D A ws t) A) (([.ref b] : List Value).toArray) s 40 409 A) (F0 m 167 ls []) := by
    intro k
    induction k with
    | zero =>
      intro i H locs ls hik hP hD hS hl kk
      have hin : i = n := by omega
      rw [hin] at hl
      refine lv_iload hx hb dX0_added_167 (lv_at hl 0 rfl) ?_
      refine lv_iload hx hb dX0_added_169 (lv_at hl 5 rfl) ?_
      refine lv_icmp_ge (tgt := 232) hx hb dX0_added_171 (by decide) (fun _ => ?_) (fun q_ => absurd (nI_le (Nat.le_refl _) hB) q_)
      exact kk H locs ls hP hD hS (lv_sub hl [0, 1, 2, 3, 4, 5, 6, 7] rfl)
    | succ k ih =>
      intro i H locs ls hik hP hD hS hl kk
      have hi : i < n := by omega
      refine lv_iload hx hb dX0_added_167 (lv_at hl 0 rfl) ?_
      refine lv_iload hx hb dX0_added_169 (lv_at hl 5 rfl) ?_
      refine lv_icmp_ge (tgt := 232) hx hb dX0_added_171 (by decide) (fun q_ => absurd q_ (nI_ge hi hB)) (fun _ => ?_)
      refine lv_aload_n hx hb dX0_added_174 rfl (lv_at hl 2 rfl) ?_
      refine lv_iconst (v := 3) hx hb dX0_added_175 (by decide) ?_
      refine lv_iload hx hb dX0_added_176 (lv_at hl 0 rfl) ?_
      refine wr_calli0 hD hS hA (va_runV (As := [.int 3, .int (nI i)]) (rest := []) ⟨hx, hb, hml, hown, hts⟩ (f_wordN l D dI dF _ H.size _ _ _ _ _ hX hn1 hn2 _ 3 (by decide) (by decide) (i) (hi)) (cwV 2 hts (lw_V q3 q4 q5 q1 q6) rfl rfl rfl (by decide +kernel) ⟨Nat.le_of_ble_eq_true rfl, Nat.le_of_ble_eq_true rfl⟩) (wf_preV hX hP hK hD) rfl rfl hl.1 rfl (lv_room (Nat.le_of_ble_eq_true rfl)) dX0_added_178 ⟨Nat.le_of_ble_eq_true rfl, Nat.le_of_ble_eq_true rfl⟩) (fun r_ u_ H locs hp hP hD hS => ?_)
      subst hp
      refine lv_aload_n hx hb dX0_added_181 rfl (lv_at hl 2 rfl) ?_
      refine lv_iload hx hb dX0_added_182 (lv_at hl 7 rfl) ?_
      refine lv_iconst (v := 1) hx hb dX0_added_184 (by decide) ?_
      refine lv_iand hx hb dX0_added_185 ?_
      refine wr_topi (nI bb) (eb) ?_
      refine lv_iload hx hb dX0_added_186 (lv_at hl 5 rfl) ?_
      refine lv_imul hx hb dX0_added_188 ?_
      refine wr_topi (nI (bb * n)) (pk_mul _ _) ?_
      refine lv_iload hx hb dX0_added_189 (lv_at hl 0 rfl) ?_
      refine lv_iadd hx hb dX0_added_191 ?_
      refine wr_topi (nI (bb * n + i)) (nI_add _ _) ?_
      refine wr_calli0 hD hS hA (va_runV (As := [.int (nI (bb * n + i))]) (rest := [.int (RX2 3 (i))]) ⟨hx, hb, hml, hown, hts⟩ (f_wideN l D dI dF _ H.size _ _ _ _ _ hX hn1 hn2 (bb * n + i) (by omega)) (cwV 1 hts (lw_V q92 q93 q94 q1 q95) rfl rfl rfl (by decide +kernel) ⟨Nat.le_of_ble_eq_true rfl, Nat.le_of_ble_eq_true rfl⟩) (wf_preV hX hP hK hD) rfl rfl hl.1 rfl (lv_room (Nat.le_of_ble_eq_true rfl)) dX0_added_192 ⟨Nat.le_of_ble_eq_true rfl, Nat.le_of_ble_eq_true rfl⟩) (fun r_ u_ H locs hp hP hD hS => ?_)
      subst hp
      refine lv_icmp_ne (tgt := 224) hx hb dX0_added_195 (by decide) (fun q_ => absurd (r3 i hi) q_) (fun _ => ?_)
      refine lv_aload_n hx hb dX0_added_198 rfl (lv_at hl 2 rfl) ?_
      refine lv_iconst (v := 1) hx hb dX0_added_199 (by decide) ?_
      refine lv_iload hx hb dX0_added_200 (lv_at hl 0 rfl) ?_
      refine wr_calli0 hD hS hA (va_runV (As := [.int 1, .int (nI i)]) (rest := []) ⟨hx, hb, hml, hown, hts⟩ (f_wordN l D dI dF _ H.size _ _ _ _ _ hX hn1 hn2 _ 1 (by decide) (by decide) (i) (hi)) (cwV 2 hts (lw_V q3 q4 q5 q1 q6) rfl rfl rfl (by decide +kernel) ⟨Nat.le_of_ble_eq_true rfl, Nat.le_of_ble_eq_true rfl⟩) (wf_preV hX hP hK hD) rfl rfl hl.1 rfl (lv_room (Nat.le_of_ble_eq_true rfl)) dX0_added_202 ⟨Nat.le_of_ble_eq_true rfl, Nat.le_of_ble_eq_true rfl⟩) (fun r_ u_ H locs hp hP hD hS => ?_)
      subst hp
      refine lv_aload_n hx hb dX0_added_205 rfl (lv_at hl 2 rfl) ?_
      refine lv_iload hx hb dX0_added_206 (lv_at hl 7 rfl) ?_
      refine lv_iconst (v := 1) hx hb dX0_added_208 (by decide) ?_
      refine lv_iadd hx hb dX0_added_209 ?_
      refine lv_iconst (v := 1) hx hb dX0_added_210 (by decide) ?_
      refine lv_iand hx hb dX0_added_211 ?_
      refine wr_topi (nI bc) (ec) ?_
      refine lv_iload hx hb dX0_added_212 (lv_at hl 5 rfl) ?_
      refine lv_imul hx hb dX0_added_214 ?_
      refine wr_topi (nI (bc * n)) (pk_mul _ _) ?_
      refine lv_iload hx hb dX0_added_215 (lv_at hl 0 rfl) ?_
      refine lv_iadd hx hb dX0_added_217 ?_
      refine wr_topi (nI (bc * n + i)) (nI_add _ _) ?_
      refine wr_calli0 hD hS hA (va_runV (As := [.int (nI (bc * n + i))]) (rest := [.int (RX2 1 (i))]) ⟨hx, hb, hml, hown, hts⟩ (f_wideN l D dI dF _ H.size _ _ _ _ _ hX hn1 hn2 (bc * n + i) (by omega)) (cwV 1 hts (lw_V q92 q93 q94 q1 q95) rfl rfl rfl (by decide +kernel) ⟨Nat.le_of_ble_eq_true rfl, Nat.le_of_ble_eq_true rfl⟩) (wf_preV hX hP hK hD) rfl rfl hl.1 rfl (lv_room (Nat.le_of_ble_eq_true rfl)) dX0_added_218 ⟨Nat.le_of_ble_eq_true rfl, Nat.le_of_ble_eq_true rfl⟩) (fun r_ u_ H locs hp hP hD hS => ?_)
      subst hp
      refine lv_icmp_eq (tgt := 226) hx hb dX0_added_221 (by decide) (fun _ => ?_) (fun q_ => absurd (r1 i hi) q_)
      refine lv_iinc (v := nI (i + 1)) (lv' := [(10, .int (nI (i + 1))), (0, .ref b), (1, .ref qX), (2, .ref qY), (3, .ref qZ), (4, .int (nI n)), (5, .int wd), (6, .int hi_)]) hx hb dX0_added_226 hl (k := 0) rfl (wn_inc i) (by decide) rfl (fun ls hl => ?_)
      refine lv_goto (tgt := 167) hx hb dX0_added_229 (by decide) ?_
      exact ih (i + 1) H locs ls (by omega) hP hD hS (lv_sub hl [0, 1, 2, 3, 4, 5, 6, 7] rfl) kk
  refine loop2 (n) 0 H locs ls (by omega) hP hD hS (lv_sub hl [0, 3, 4, 5, 6, 7, 8, 9] rfl) ?_
  clear loop2
  intro H locs ls hP hD hS hl
  refine lv_aload_n hx hb dX0_added_232 rfl (lv_at hl 4 rfl) ?_
  refine lv_iconst (v := 2) hx hb dX0_added_233 (by decide) ?_
  refine lv_iconst (v := 0) hx hb dX0_added_234 (by decide) ?_
  refine lv_iload hx hb dX0_added_235 (lv_at hl 6 rfl) ?_
  have c249 : (∀ (H : Heap) (locs : List Loc), va_P D vwCl u H → va_D A u → va_S A s.heap H locs → W p l e (headSpec (ws_ yX0_added cX0_added 11 (some .boolean)) lw_rA).room s m (([.ref b] : List Value).toArray) below meth c H locs 39 393 (MQ below (va_Qi (fun (r : Int32) (_ : Unit) => r = 1) (fun _ t => wr_B D A ws t) A) (([.ref b] : List Value).toArray) s 40 409 A) (F0 m 249 ls [.int (lw_zr wd (1 % n)), .int wd, .int 0, .int 2, .ref qZ])) → ∀ (H : Heap) (locs : List Loc), va_P D vwCl u H → va_D A u → va_S A s.heap H locs → W p l e (headSpec (ws_ yX0_added cX0_added 11 (some .boolean)) lw_rA).room s m (([.ref b] : List Value).toArray) below meth c H locs 39 393 (MQ below (va_Qi (fun (r : Int32) (_ : Unit) => r = 1) (fun _ t => wr_B D A ws t) A) (([.ref b] : List Value).toArray) s 40 409 A) (F0 m 237 ls [.int wd, .int 0, .int 2, .ref qZ]) := by
    intro kk H locs hP hD hS
    refine lv_iload hx hb dX0_added_237 (lv_at hl 5 rfl) ?_
    refine lv_iconst (v := nI 1) hx hb dX0_added_239 (by decide) ?_
    rcases Nat.lt_or_ge 1 n with g | g
    · skip
      refine lv_icmp_ne (tgt := 248) hx hb dX0_added_240 (by decide) (fun _ => ?_) (fun q_ => absurd q_ (fun h => absurd ((nI_eq hB (by decide)).mp h) (by omega)))
      refine lv_iconst (v := 0) hx hb dX0_added_248 (by decide) ?_
      refine wr_topi (lw_zr wd (1 % n)) (by rw [Nat.mod_eq_of_lt g]; rfl) ?_
      exact kk H locs hP hD hS
    · skip
      have g1 : n = 1 := by omega
      refine lv_icmp_ne (tgt := 248) hx hb dX0_added_240 (by decide) (fun q_ => absurd (show nI n = nI 1 by rw [g1]) q_) (fun _ => ?_)
      refine lv_iload hx hb dX0_added_243 (lv_at hl 6 rfl) ?_
      refine wr_topi (lw_zr wd (1 % n)) (by rw [g1]; rfl) ?_
      refine lv_goto (tgt := 249) hx hb dX0_added_245 (by decide) ?_
      exact kk H locs hP hD hS
  refine c249 (fun H locs hP hD hS => ?_) H locs hP hD hS
  have c261 : (∀ (H : Heap) (locs : List Loc), va_P D vwCl u H → va_D A u → va_S A s.heap H locs → W p l e (headSpec (ws_ yX0_added cX0_added 11 (some .boolean)) lw_rA).room s m (([.ref b] : List Value).toArray) below meth c H locs 39 393 (MQ below (va_Qi (fun (r : Int32) (_ : Unit) => r = 1) (fun _ t => wr_B D A ws t) A) (([.ref b] : List Value).toArray) s 40 409 A) (F0 m 261 ls [.int (lw_zr wd (2 % n)), .int (lw_zr wd (1 % n)), .int wd, .int 0, .int 2, .ref qZ])) → ∀ (H : Heap) (locs : List Loc), va_P D vwCl u H → va_D A u → va_S A s.heap H locs → W p l e (headSpec (ws_ yX0_added cX0_added 11 (some .boolean)) lw_rA).room s m (([.ref b] : List Value).toArray) below meth c H locs 39 393 (MQ below (va_Qi (fun (r : Int32) (_ : Unit) => r = 1) (fun _ t => wr_B D A ws t) A) (([.ref b] : List Value).toArray) s 40 409 A) (F0 m 249 ls [.int (lw_zr wd (1 % n)), .int wd, .int 0, .int 2, .ref qZ]) := by
    intro kk H locs hP hD hS
    refine lv_iload hx hb dX0_added_249 (lv_at hl 5 rfl) ?_
    refine lv_iconst (v := nI 3) hx hb dX0_added_251 (by decide) ?_
    rcases Nat.lt_or_ge n 3 with g | g
    · skip
      refine lv_icmp_ge (tgt := 260) hx hb dX0_added_252 (by decide) (fun q_ => absurd q_ (nI_ge g (by decide))) (fun _ => ?_)
      refine lv_iload hx hb dX0_added_255 (lv_at hl 6 rfl) ?_
      refine wr_topi (lw_zr wd (2 % n)) (by rcases (show n = 1 ∨ n = 2 by omega) with g1 | g1 <;> (rw [g1]; rfl)) ?_
      refine lv_goto (tgt := 261) hx hb dX0_added_257 (by decide) ?_
      exact kk H locs hP hD hS
    · skip
      refine lv_icmp_ge (tgt := 260) hx hb dX0_added_252 (by decide) (fun _ => ?_) (fun q_ => absurd (nI_le g hB) q_)
      refine lv_iconst (v := 0) hx hb dX0_added_260 (by decide) ?_
      refine wr_topi (lw_zr wd (2 % n)) (by rw [Nat.mod_eq_of_lt g]; rfl) ?_
      exact kk H locs hP hD hS
  refine c261 (fun H locs hP hD hS => ?_) H locs hP hD hS
  refine wr_callv0 hD hS hA (va_runV (As := [.int 2, .int 0, .int wd, .int (lw_zr wd (1 % n)), .int (lw_zr wd (2 % n))]) (rest := []) ⟨hx, hb, hml, hown, hts⟩ (f_put l D dI dF _ H.size _ _ _ _ _ hZ hn1 hn2 2 2 (by decide) (by decide) 0 0 (by decide) (by decide) wd (lw_zr wd (1 % n)) (lw_zr wd (2 % n))) (cwV 5 hts (lw_V q127 q128 q129 q1 q130) rfl rfl rfl (by decide +kernel) ⟨Nat.le_of_ble_eq_true rfl, Nat.le_of_ble_eq_true rfl⟩) (wf_preV hZ hP hK hD) rfl rfl hl.1 rfl (lv_room (Nat.le_of_ble_eq_true rfl)) dX0_added_261 ⟨Nat.le_of_ble_eq_true rfl, Nat.le_of_ble_eq_true rfl⟩) (fun u H locs hp hP hD hS => ?_)
  rw [Nat.zero_mod, Nat.zero_add, Nat.zero_add] at hp
  have hX := wf_keep hp hX (by omega)
  have hY := wf_keep hp hY (by omega)
  have hpre : ∀ j, j < ws.length → u[j]? = ws[j]? := fun j hj => (hp.2.1 j (Or.inl (by omega))).trans (hpre j hj)
  have hlen : u.length = ws.length + 21 := hp.1.trans hlen
  have hZ := hp.2.2
  obtain ⟨RZ1, eRZ1⟩ : ∃ z_, z_ = va_up RZ 2 (upd (upd (upd (RZ 2) 0 wd) (1 % n) (lw_zr wd (1 % n))) (2 % n) (lw_zr wd (2 % n))) := ⟨_, rfl⟩
  rw [← eRZ1] at hZ
  have z2 : ∀ j, j < 3 → j < n → RZ1 2 j = lw_zr wd j := by
    intro j hj hjn
    rw [eRZ1, show va_up RZ 2 _ 2 = _ from if_pos rfl]
    refine lw_put3 (T := lw_zr wd) rfl rfl rfl (Or.inr ?_)
    rcases (show j = 0 ∨ j = 1 ∨ j = 2 by omega) with g | g | g
    · exact Or.inl g
    · exact Or.inr (Or.inl (by rw [g, Nat.mod_eq_of_lt (by omega)]))
    · exact Or.inr (Or.inr (by rw [g, Nat.mod_eq_of_lt (by omega)]))
  have z0 : ∀ j, j < n → RZ1 0 j = lw_T L xs 0 j := fun j hj => by rw [eRZ1]; exact hRZ 0 j (by decide) hj
  refine lv_iconst (v := nI 3) hx hb dX0_added_264 (by decide) ?_
  refine lv_istore (lv' := [(10, .int (nI 3)), (0, .ref b), (1, .ref qX), (2, .ref qY), (3, .ref qZ), (4, .int (nI n)), (5, .int wd), (6, .int hi_)]) hx hb dX0_added_265 hl (by decide) rfl (fun ls hl => ?_)
  have loop3 : (∀ (i : Nat) (u : va_W) (R : Nat → Nat → Int32) (H : Heap) (locs : List Loc) (ls : Array Slot), n ≤ i → u.length = ws.length + 21 → (∀ j, j < ws.length → u[j]? = ws[j]?) → wf_at dI dF u (ws.length + 7) qY n RY wY1 → wf_at dI dF u (ws.length + 14) qZ n R wZ1 → (∀ j, j < n → R 0 j = lw_T L xs 0 j) → (∀ j, 0 < j → j < i → j < n → R 2 j = 0) → (n ≤ i → R 2 0 = wd) → va_P D vwCl u H → va_D A u → va_S A s.heap H locs → lv_has ls 11 [(0, .ref b), (1, .ref qX), (2, .ref qY), (3, .ref qZ), (4, .int (nI n)), (5, .int wd), (6, .int hi_)] → W p l e (headSpec (ws_ yX0_added cX0_added 11 (some .boolean)) lw_rA).room s m (([.ref b] : List Value).toArray) below meth c H locs 39 393 (MQ below (va_Qi (fun (r : Int32) (_ : Unit) => r = 1) (fun _ t => wr_B D A ws t) A) (([.ref b] : List Value).toArray) s 40 409 A) (F0 m 304 ls [])) → ∀ (k : Nat) (i : Nat) (u : va_W) (R : Nat → Nat → Int32) (H : Heap) (locs : List Loc) (ls : Array Slot), (3 ≤ i ∧ i ≤ 16) → n ≤ i + k → u.length = ws.length + 21 → (∀ j, j < ws.length → u[j]? = ws[j]?) → wf_at dI dF u (ws.length + 7) qY n RY wY1 → wf_at dI dF u (ws.length + 14) qZ n R wZ1 → (∀ j, j < n → R 0 j = lw_T L xs 0 j) → (∀ j, 0 < j → j < i → j < n → R 2 j = 0) → (n ≤ i → R 2 0 = wd) → va_P D vwCl u H → va_D A u → va_S A s.heap H locs → lv_has ls 11 [(10, .int (nI i)), (0, .ref b), (1, .ref qX), (2, .ref qY), (3, .ref qZ), (4, .int (nI n)), (5, .int wd), (6, .int hi_)] → W p l e (headSpec (ws_ yX0_added cX0_added 11 (some .boolean)) lw_rA).room s m (([.ref b] : List Value).toArray) below meth c H locs 39 393 (MQ below (va_Qi (fun (r : Int32) (_ : Unit) => r = 1) (fun _ t => wr_B D A ws t) A) (([.ref b] : List Value).toArray) s 40 409 A) (F0 m 267 ls []) := by
    intro kk k
    induction k with
    | zero =>
      intro i u R H locs ls h3i hik hlen hpre hY hZ hz0 hz2 hzw hP hD hS hl
      refine lv_iload hx hb dX0_added_267 (lv_at hl 0 rfl) ?_
      refine lv_iload hx hb dX0_added_269 (lv_at hl 5 rfl) ?_
      have g : n ≤ i := by omega
      have g31 : i < 2 ^ 31 := by omega
      refine lv_icmp_ge (tgt := 304) hx hb dX0_added_271 (by decide) (fun _ => ?_) (fun q_ => absurd (nI_le g g31) q_)
      exact kk i u R H locs ls g hlen hpre hY hZ hz0 hz2 hzw hP hD hS (lv_sub hl [1, 2, 3, 4, 5, 6, 7] rfl)
    | succ k ih =>
      intro i u R H locs ls h3i hik hlen hpre hY hZ hz0 hz2 hzw hP hD hS hl
      refine lv_iload hx hb dX0_added_267 (lv_at hl 0 rfl) ?_
      refine lv_iload hx hb dX0_added_269 (lv_at hl 5 rfl) ?_
      rcases Nat.lt_or_ge i n with g | g
      · skip
        refine lv_icmp_ge (tgt := 304) hx hb dX0_added_271 (by decide) (fun q_ => absurd q_ (nI_ge g hB)) (fun _ => ?_)
        refine lv_aload_n hx hb dX0_added_274 rfl (lv_at hl 4 rfl) ?_
        refine lv_iconst (v := 2) hx hb dX0_added_275 (by decide) ?_
        refine lv_iload hx hb dX0_added_276 (lv_at hl 0 rfl) ?_
        refine lv_iconst (v := 0) hx hb dX0_added_278 (by decide) ?_
        have c294 : (∀ (H : Heap) (locs : List Loc), va_P D vwCl u H → va_D A u → va_S A s.heap H locs → W p l e (headSpec (ws_ yX0_added cX0_added 11 (some .boolean)) lw_rA).room s m (([.ref b] : List Value).toArray) below meth c H locs 39 393 (MQ below (va_Qi (fun (r : Int32) (_ : Unit) => r = 1) (fun _ t => wr_B D A ws t) A) (([.ref b] : List Value).toArray) s 40 409 A) (F0 m 294 ls [.int (lw_zr wd ((i + 1) % n)), .int 0, .int (nI i), .int 2, .ref qZ])) → ∀ (H : Heap) (locs : List Loc), va_P D vwCl u H → va_D A u → va_S A s.heap H locs → W p l e (headSpec (ws_ yX0_added cX0_added 11 (some .boolean)) lw_rA).room s m (([.ref b] : List Value).toArray) below meth c H locs 39 393 (MQ below (va_Qi (fun (r : Int32) (_ : Unit) => r = 1) (fun _ t => wr_B D A ws t) A) (([.ref b] : List Value).toArray) s 40 409 A) (F0 m 279 ls [.int 0, .int (nI i), .int 2, .ref qZ]) := by
          intro kk H locs hP hD hS
          refine lv_iload hx hb dX0_added_279 (lv_at hl 0 rfl) ?_
          refine lv_iconst (v := nI 1) hx hb dX0_added_281 (by decide) ?_
          refine lv_iadd hx hb dX0_added_282 ?_
          refine wr_topi (nI (i + 1)) (nI_add _ _) ?_
          refine lv_iload hx hb dX0_added_283 (lv_at hl 5 rfl) ?_
          rcases Nat.lt_or_ge (i + 1) n with g2 | g2
          · skip
            refine lv_icmp_ge (tgt := 292) hx hb dX0_added_285 (by decide) (fun q_ => absurd q_ (nI_ge g2 hB)) (fun _ => ?_)
            refine lv_iconst (v := 0) hx hb dX0_added_288 (by decide) ?_
            refine wr_topi (lw_zr wd ((i + 1) % n)) (by rw [Nat.mod_eq_of_lt g2]; rfl) ?_
            refine lv_goto (tgt := 294) hx hb dX0_added_289 (by decide) ?_
            exact kk H locs hP hD hS
          · skip
            refine lv_icmp_ge (tgt := 292) hx hb dX0_added_285 (by decide) (fun _ => ?_) (fun q_ => absurd (nI_le g2 (by omega)) q_)
            refine lv_iload hx hb dX0_added_292 (lv_at hl 6 rfl) ?_
            refine wr_topi (lw_zr wd ((i + 1) % n)) (by rw [show i + 1 = n by omega, Nat.mod_self]; rfl) ?_
            exact kk H locs hP hD hS
        refine c294 (fun H locs hP hD hS => ?_) H locs hP hD hS
        refine lv_iconst (v := 0) hx hb dX0_added_294 (by decide) ?_
        refine wr_callv0 hD hS hA (va_runV (As := [.int 2, .int (nI i), .int 0, .int (lw_zr wd ((i + 1) % n)), .int 0]) (rest := []) ⟨hx, hb, hml, hown, hts⟩ (f_put l D dI dF _ H.size _ _ _ _ _ hZ hn1 hn2 2 2 (by decide) (by decide) (nI i) i (by omega) (lw_and15 (by omega)) 0 (lw_zr wd ((i + 1) % n)) 0) (cwV 5 hts (lw_V q127 q128 q129 q1 q130) rfl rfl rfl (by decide +kernel) ⟨Nat.le_of_ble_eq_true rfl, Nat.le_of_ble_eq_true rfl⟩) (wf_preV hZ hP hK hD) rfl rfl hl.1 rfl (lv_room (Nat.le_of_ble_eq_true rfl)) dX0_added_295 ⟨Nat.le_of_ble_eq_true rfl, Nat.le_of_ble_eq_true rfl⟩) (fun u H locs hp hP hD hS => ?_)
        rw [Nat.mod_eq_of_lt g] at hp
        refine lv_iinc (v := nI (i + 1)) (lv' := [(10, .int (nI (i + 1))), (0, .ref b), (1, .ref qX), (2, .ref qY), (3, .ref qZ), (4, .int (nI n)), (5, .int wd), (6, .int hi_)]) hx hb dX0_added_298 hl (k := 0) rfl (wn_inc i) (by decide) rfl (fun ls hl => ?_)
        refine lv_goto (tgt := 267) hx hb dX0_added_301 (by decide) ?_
        have hm2 : (i + 2) % n < n := Nat.mod_lt _ (by omega)
        refine ih (i + 1) u _ H locs ls (by omega) (by omega) (hp.1.trans hlen) (fun j hj => (hp.2.1 j (Or.inl (by omega))).trans (hpre j hj)) (wf_keep hp hY (by omega)) hp.2.2 (fun j hj => hz0 j hj) (fun j h0 hj hjn => ?_) (fun hni => ?_) hP hD hS (lv_sub hl [0, 1, 2, 3, 4, 5, 6, 7] rfl)
        · show (if j = (i + 2) % n then (0 : Int32) else if j = (i + 1) % n then lw_zr wd ((i + 1) % n) else if j = i then 0 else R 2 j) = 0
          by_cases h1 : j = (i + 2) % n
          · rw [if_pos h1]
          · rw [if_neg h1]
            by_cases h2 : j = (i + 1) % n
            · rw [if_pos h2, ← h2]; exact if_neg (by omega)
            · rw [if_neg h2]
              by_cases h3 : j = i
              · rw [if_pos h3]
              · rw [if_neg h3]; exact hz2 j h0 (by omega) hjn
        · show (if 0 = (i + 2) % n then (0 : Int32) else if 0 = (i + 1) % n then lw_zr wd ((i + 1) % n) else if 0 = i then 0 else R 2 0) = wd
          have h1 : (i + 2) % n = 1 := by rw [show i + 2 = 1 + n by omega, Nat.add_mod_right, Nat.mod_eq_of_lt (by omega)]
          have h2 : (i + 1) % n = 0 := by rw [show i + 1 = n by omega, Nat.mod_self]
          rw [if_neg (by omega), if_pos h2.symm, h2]; rfl
      · skip
        have g31 : i < 2 ^ 31 := by omega
        refine lv_icmp_ge (tgt := 304) hx hb dX0_added_271 (by decide) (fun _ => ?_) (fun q_ => absurd (nI_le g g31) q_)
        exact kk i u R H locs ls g hlen hpre hY hZ hz0 hz2 hzw hP hD hS (lv_sub hl [1, 2, 3, 4, 5, 6, 7] rfl)
  refine loop3 ?_ 16 3 u RZ1 H locs ls ⟨Nat.le_refl 3, by omega⟩ (by omega) hlen hpre hY hZ z0 (fun j h0 hj hjn => (z2 j hj hjn).trans (if_neg (by omega))) (fun hn3 => (z2 0 (by decide) (by omega)).trans (if_pos rfl)) hP hD hS (lv_sub hl [0, 1, 2, 3, 4, 5, 6, 7] rfl)
  clear loop3
  intro i u R H locs ls hni hlen hpre hY hZ hz0 hz2 hzw hP hD hS hl
  refine lv_aload_n hx hb dX0_added_304 rfl (lv_at hl 3 rfl) ?_
  refine lv_iconst (v := 0) hx hb dX0_added_305 (by decide) ?_
  refine lv_iconst (v := 2) hx hb dX0_added_306 (by decide) ?_
  refine wr_callv0 hD hS hA (va_runV (As := [.int 0, .int 2]) (rest := []) ⟨hx, hb, hml, hown, hts⟩ (f_multiply l D dI dF _ H.size _ _ _ _ _ hZ hn1 hn2 0 0 (by decide) (by decide) 2 2 (by decide) (by decide)) (cwV 2 hts (lw_V q22 q23 q24 q1 q25) rfl rfl rfl (by decide +kernel) ⟨Nat.le_of_ble_eq_true rfl, Nat.le_of_ble_eq_true rfl⟩) (wf_preV hZ hP hK hD) rfl rfl hl.1 rfl (lv_room (Nat.le_of_ble_eq_true rfl)) dX0_added_307 ⟨Nat.le_of_ble_eq_true rfl, Nat.le_of_ble_eq_true rfl⟩) (fun u H locs hp hP hD hS => ?_)
  obtain ⟨wZ2, hwZ2, hp⟩ := hp
  have hY := wf_keep hp hY (by omega)
  have hpre : ∀ j, j < ws.length → u[j]? = ws[j]? := fun j hj => (hp.2.1 j (Or.inl (by omega))).trans (hpre j hj)
  have hlen : u.length = ws.length + 21 := hp.1.trans hlen
  have hZ := hp.2.2
  refine lv_aload_n hx hb dX0_added_310 rfl (lv_at hl 2 rfl) ?_
  refine lv_iconst (v := 3) hx hb dX0_added_311 (by decide) ?_
  refine lv_iload hx hb dX0_added_312 (lv_at hl 5 rfl) ?_
  refine lv_iconst (v := 0) hx hb dX0_added_314 (by decide) ?_
  refine wr_calli hD hS hA (va_runV (As := [.int 3, .int wd, .int 0]) (rest := []) ⟨hx, hb, hml, hown, hts⟩ (f_byWord l D dI dF _ H.size _ _ _ _ _ hY hn1 hn2 3 3 (by decide) (by decide) wd 0 0 (by decide) (by decide)) (cwV 3 hts (lw_V q145 q146 q147 q1 q148) rfl rfl rfl (by decide +kernel) ⟨Nat.le_of_ble_eq_true rfl, Nat.le_of_ble_eq_true rfl⟩) (wf_preV hY hP hK hD) rfl rfl hl.1 rfl (lv_room (Nat.le_of_ble_eq_true rfl)) dX0_added_315 ⟨Nat.le_of_ble_eq_true rfl, Nat.le_of_ble_eq_true rfl⟩) (fun r_ u H locs hp hP hD hS => ?_)
  obtain ⟨hrb, hp⟩ := hp
  subst hrb
  have hZ := wf_keep hp hZ (by omega)
  have hpre : ∀ j, j < ws.length → u[j]? = ws[j]? := fun j hj => (hp.2.1 j (Or.inl (by omega))).trans (hpre j hj)
  have hlen : u.length = ws.length + 21 := hp.1.trans hlen
  have hY := hp.2.2
  obtain ⟨RY1, eRY1⟩ : ∃ z_, z_ = va_up RY 3 (wr_f (wn_cw (wn_gM (wn_w wd) (RY 0))) (fun _ => 0) n) := ⟨_, rfl⟩
  rw [← eRY1] at hY
  refine lv_istore (lv' := [(7, .int (nI (wn_c (wn_gM (wn_w wd) (RY 0)) n))), (0, .ref b), (1, .ref qX), (2, .ref qY), (3, .ref qZ), (4, .int (nI n)), (5, .int wd), (6, .int hi_)]) hx hb dX0_added_318 hl (by decide) rfl (fun ls hl => ?_)
  refine W.widen (k := 40) (n := 409) (Nat.le_of_ble_eq_true rfl) (Nat.le_of_ble_eq_true rfl) ?_
  have vR0 : wn_v (wn_d (R 0)) n = wn_v (wn_d (RY 0)) n := lw_val (fun j hj => (hz0 j hj).trans (hRY 0 j (by decide) hj).symm)
  have vR2 : wn_v (wn_d (R 2)) n = wn_w wd := lw_Zval hn1 (fun j hj => by rcases Nat.eq_zero_or_pos j with g | g; rw [g]; exact (hzw hni).trans (if_pos rfl).symm; exact (hz2 j g (by omega) hj).trans (if_neg (by omega)).symm)
  obtain ⟨hw1, hw2⟩ := lw_byw (wn_w_lt wd) (y := RY 0) (z := wZ2) hn1 (by rw [hwZ2, vR0, vR2])
  have r3 : ∀ i, i < n → RY1 3 i = wZ2 i := fun i hi => by rw [eRY1]; simp only [va_up, if_pos]; rw [wr_fl _ _ hi]; exact hw1 i hi
  refine lv_iconst (v := nI 0) hx hb dX0_added_320 (by decide) ?_
  refine lv_istore (lv' := [(10, .int (nI 0)), (7, .int (nI (wn_c (wn_gM (wn_w wd) (RY 0)) n))), (0, .ref b), (1, .ref qX), (2, .ref qY), (3, .ref qZ), (4, .int (nI n)), (5, .int wd), (6, .int hi_)]) hx hb dX0_added_321 hl (by decide) rfl (fun ls hl => ?_)
  have loop4 : ∀ (k i : Nat) (H : Heap) (locs : List Loc) (ls : Array Slot), i + k = n → va_P D vwCl u H → va_D A u → va_S A s.heap H locs → lv_has ls 11 [(10, .int (nI i)), (7, .int (nI (wn_c (wn_gM (wn_w wd) (RY 0)) n))), (0, .ref b), (1, .ref qX), (2, .ref qY), (3, .ref qZ), (4, .int (nI n)), (5, .int wd), (6, .int hi_)] → (∀ (H : Heap) (locs : List Loc) (ls : Array Slot), va_P D vwCl u H → va_D A u → va_S A s.heap H locs → lv_has ls 11 [(10, .int (nI n)), (7, .int (nI (wn_c (wn_gM (wn_w wd) (RY 0)) n))), (0, .ref b), (1, .ref qX), (2, .ref qY), (3, .ref qZ), (4, .int (nI n)), (5, .int wd), (6, .int hi_)] → W p l e (headSpec (ws_ yX0_added cX0_added 11 (some .boolean)) lw_rA).room s m (([.ref b] : List Value).toArray) below meth c H locs 40 409 (MQ below (va_Qi (fun (r : Int32) (_ : Unit) => r = 1) (fun _ t => wr_B D A ws t) A) (([.ref b] : List Value).toArray) s 40 409 A) (F0 m 354 ls [])) → W p l e (headSpec (ws_ yX0_added cX0_added 11 (some .boolean)) lw_rA).room s m (([.ref b] : List Value).toArray) below meth c H locs 40 409 (MQ below (va_Qi (fun (r : Int32) (_ : Unit) => r = 1) (fun _ t => wr_B D A ws t) A) (([.ref b] : List Value).toArray) s 40 409 A) (F0 m 323 ls []) := by
    intro k
    induction k with
    | zero =>
      intro i H locs ls hik hP hD hS hl kk
      have hin : i = n := by omega
      rw [hin] at hl
      refine lv_iload hx hb dX0_added_323 (lv_at hl 0 rfl) ?_
      refine lv_iload hx hb dX0_added_325 (lv_at hl 6 rfl) ?_
      refine lv_icmp_ge (tgt := 354) hx hb dX0_added_327 (by decide) (fun _ => ?_) (fun q_ => absurd (nI_le (Nat.le_refl _) hB) q_)
      exact kk H locs ls hP hD hS (lv_sub hl [0, 1, 2, 3, 4, 5, 6, 7, 8] rfl)
    | succ k ih =>
      intro i H locs ls hik hP hD hS hl kk
      have hi : i < n := by omega
      refine lv_iload hx hb dX0_added_323 (lv_at hl 0 rfl) ?_
      refine lv_iload hx hb dX0_added_325 (lv_at hl 6 rfl) ?_
      refine lv_icmp_ge (tgt := 354) hx hb dX0_added_327 (by decide) (fun q_ => absurd q_ (nI_ge hi hB)) (fun _ => ?_)
      refine lv_aload_n hx hb dX0_added_330 rfl (lv_at hl 4 rfl) ?_
      refine lv_iconst (v := 3) hx hb dX0_added_331 (by decide) ?_
      refine lv_iload hx hb dX0_added_332 (lv_at hl 0 rfl) ?_
      refine wr_calli0 hD hS hA (va_runV (As := [.int 3, .int (nI i)]) (rest := []) ⟨hx, hb, hml, hown, hts⟩ (f_wordN l D dI dF _ H.size _ _ _ _ _ hY hn1 hn2 _ 3 (by decide) (by decide) (i) (hi)) (cwV 2 hts (lw_V q3 q4 q5 q1 q6) rfl rfl rfl (by decide +kernel) ⟨Nat.le_of_ble_eq_true rfl, Nat.le_of_ble_eq_true rfl⟩) (wf_preV hY hP hK hD) rfl rfl hl.1 rfl (lv_room (Nat.le_of_ble_eq_true rfl)) dX0_added_334 ⟨Nat.le_of_ble_eq_true rfl, Nat.le_of_ble_eq_true rfl⟩) (fun r_ u_ H locs hp hP hD hS => ?_)
      subst hp
      refine lv_aload_n hx hb dX0_added_337 rfl (lv_at hl 5 rfl) ?_
      refine lv_iload hx hb dX0_added_338 (lv_at hl 0 rfl) ?_
      refine wr_calli0 hD hS hA (va_runV (As := [.int (nI i)]) (rest := [.int (RY1 3 (i))]) ⟨hx, hb, hml, hown, hts⟩ (f_wideN l D dI dF _ H.size _ _ _ _ _ hZ hn1 hn2 (i) (by omega)) (cwV 1 hts (lw_V q92 q93 q94 q1 q95) rfl rfl rfl (by decide +kernel) ⟨Nat.le_of_ble_eq_true rfl, Nat.le_of_ble_eq_true rfl⟩) (wf_preV hZ hP hK hD) rfl rfl hl.1 rfl (lv_room (Nat.le_of_ble_eq_true rfl)) dX0_added_340 ⟨Nat.le_of_ble_eq_true rfl, Nat.le_of_ble_eq_true rfl⟩) (fun r_ u_ H locs hp hP hD hS => ?_)
      subst hp
      refine lv_icmp_eq (tgt := 348) hx hb dX0_added_343 (by decide) (fun _ => ?_) (fun q_ => absurd (r3 i hi) q_)
      refine lv_iinc (v := nI (i + 1)) (lv' := [(10, .int (nI (i + 1))), (7, .int (nI (wn_c (wn_gM (wn_w wd) (RY 0)) n))), (0, .ref b), (1, .ref qX), (2, .ref qY), (3, .ref qZ), (4, .int (nI n)), (5, .int wd), (6, .int hi_)]) hx hb dX0_added_348 hl (k := 0) rfl (wn_inc i) (by decide) rfl (fun ls hl => ?_)
      refine lv_goto (tgt := 323) hx hb dX0_added_351 (by decide) ?_
      exact ih (i + 1) H locs ls (by omega) hP hD hS (lv_sub hl [0, 1, 2, 3, 4, 5, 6, 7, 8] rfl) kk
  refine loop4 (n) 0 H locs ls (by omega) hP hD hS (lv_sub hl [0, 1, 2, 3, 4, 5, 6, 7, 8] rfl) ?_
  clear loop4
  intro H locs ls hP hD hS hl
  refine lv_iload hx hb dX0_added_354 (lv_at hl 1 rfl) ?_
  refine lv_aload_n hx hb dX0_added_356 rfl (lv_at hl 5 rfl) ?_
  refine lv_iload hx hb dX0_added_357 (lv_at hl 6 rfl) ?_
  refine wr_calli0 hD hS hA (va_runV (As := [.int (nI n)]) (rest := [.int (nI (wn_c (wn_gM (wn_w wd) (RY 0)) n))]) ⟨hx, hb, hml, hown, hts⟩ (f_wideN l D dI dF _ H.size _ _ _ _ _ hZ hn1 hn2 (n) (by omega)) (cwV 1 hts (lw_V q92 q93 q94 q1 q95) rfl rfl rfl (by decide +kernel) ⟨Nat.le_of_ble_eq_true rfl, Nat.le_of_ble_eq_true rfl⟩) (wf_preV hZ hP hK hD) rfl rfl hl.1 rfl (lv_room (Nat.le_of_ble_eq_true rfl)) dX0_added_359 ⟨Nat.le_of_ble_eq_true rfl, Nat.le_of_ble_eq_true rfl⟩) (fun r_ u_ H locs hp hP hD hS => ?_)
  subst hp
  refine lv_icmp_ne (tgt := 369) hx hb dX0_added_362 (by decide) (fun q_ => absurd hw2 q_) (fun _ => ?_)
  refine lv_iconst (v := 1) hx hb dX0_added_365 (by decide) ?_
  refine lv_goto (tgt := 370) hx hb dX0_added_366 (by decide) ?_
  exact wr_zret () hx hb hr hlocks rfl (lw_preP hpre hP) (lw_preD hpre hD) hS (rfl) (Nat.le_of_ble_eq_true rfl) (Nat.le_of_ble_eq_true rfl) dX0_added_370
end
section
/-! WholeFileLaw: steps -/
set_option maxHeartbeats 4000000 in
set_option maxRecDepth 100000 in
/-- the law: steps -/
theorem c_steps (l : Launch) (D : va_G) (dI dF : ClassId) (ws : va_W) (sz : Nat) (b L : Nat) (xs : Nat → Int32) (hL : L < 2 ^ 31) : Met l yX0_steps (ws_ yX0_steps cX0_steps 12 (some .boolean)) lw_rS (wr_PX D dI dF [.ref b] ws sz b L xs) (va_Qi (fun (r : Int32) (_ : Unit) => r = 1) (fun _ t => wr_B D (va_A ws sz) ws t) (va_A ws sz)) 130 1310 (va_A ws sz) := by
  refine Met.ofW (cc := cX0_steps) (maxL := 12) (ret := (some .boolean)) (by decide) rfl ?_
  intro p e s m args below meth c s₁ B hml hv
  obtain ⟨rfl, hsz, hP, hK, hD0, hX0, hbl, hbw⟩ := hv
  have hx := B.exec
  have hb := B.bytes
  have hr := B.returns
  have hts := atoms_spec (ws := ws_ yX0_steps cX0_steps 12 (some .boolean)) B.pre
  have hts : ∀ w ∈ lw_all, w.before _ s = true := fun w h => hts w (List.mem_cons_of_mem _ h)
  have hown : s.vm.findClass RX0 = some m.cls := findClass_of_methodNamed B.named
  have hlocks := B.notSynchronized
  subst hsz
  have hD := hD0.self (sz := s.heap.size)
  have hbA : ¬ va_A ws s.heap.size b := fun h => h.elim (fun ⟨k, e, h⟩ => hbw k e h) (fun h => absurd hbl (Nat.not_lt.mpr h))
  generalize hAe : va_A ws s.heap.size = A at hD hbA ⊢
  have hA : ∀ q : Nat, s.heap.size ≤ q → A q := fun q h => by rw [← hAe]; exact Or.inr h
  have hS : va_S A s.heap s.heap [] := va_S.rf
  have hl := lv_entry ([.ref b]) (n := 12) (Nat.le_of_ble_eq_true rfl)
  rw [lg_entry_eq]
  generalize (lg_sl ([.ref b]) ++ List.replicate (12 - (lg_sl ([.ref b])).length) Slot.unset).toArray = ls at hl ⊢
  have hl : lv_has ls 12 [(0, .ref b)] := hl
  obtain ⟨n, hn⟩ : ∃ n, n = lw_N L xs := ⟨_, rfl⟩
  obtain ⟨hn1, hn2⟩ := lw_N_in hn
  have hB : n < 2 ^ 31 := by omega
  refine lv_iconst (v := nI 1) hx hb dX0_steps_0 (by decide) ?_
  refine lv_aload_n hx hb dX0_steps_1 rfl (lv_at hl 0 rfl) ?_
  refine lv_iconst (v := nI 0) hx hb dX0_steps_2 (by decide) ?_
  refine wr_calli0 hD hS hA (va_runS (As := [.ref b, .int (nI 0)]) (rest := [.int (nI 1)]) ⟨hx, hb, hml, hown, hts⟩ (c_cell l D dI dF _ s.heap.size b L xs (0) (by decide) hL) (va_cwS 2 hts (lw_S q96 q97 q0 q98) rfl rfl rfl (by decide +kernel) ⟨Nat.le_of_ble_eq_true rfl, Nat.le_of_ble_eq_true rfl⟩) (wr_preX hX0 hbl hbA hP hK hD hS) rfl rfl hl.1 rfl (lv_room (Nat.le_of_ble_eq_true rfl)) dX0_steps_3 ⟨Nat.le_of_ble_eq_true rfl, Nat.le_of_ble_eq_true rfl⟩) (fun r_ u_ H locs hp hP hD hS => ?_)
  subst hp
  refine lv_bipush (v := 15) hx hb dX0_steps_6 (by decide) ?_
  refine lv_iand hx hb dX0_steps_8 ?_
  refine wr_topi (nI (wn_w (lw_cl L xs 0) % 16)) (wf_and15 _) ?_
  refine lv_iadd hx hb dX0_steps_9 ?_
  refine wr_topi (nI n) (by rw [nI_add, hn]; rfl) ?_
  refine lv_istore_n (lv' := [(1, .int (nI n)), (0, .ref b)]) hx hb dX0_steps_10 rfl hl (by decide) rfl (fun ls hl => ?_)
  refine lv_aload_n hx hb dX0_steps_11 rfl (lv_at hl 1 rfl) ?_
  refine lv_iconst (v := nI 2) hx hb dX0_steps_12 (by decide) ?_
  refine wr_calli0 hD hS hA (va_runS (As := [.ref b, .int (nI 2)]) (rest := []) ⟨hx, hb, hml, hown, hts⟩ (c_cell l D dI dF _ H.size b L xs (2) (by decide) hL) (va_cwS 2 hts (lw_S q96 q97 q0 q98) rfl rfl rfl (by decide +kernel) ⟨Nat.le_of_ble_eq_true rfl, Nat.le_of_ble_eq_true rfl⟩) (wr_preX hX0 hbl hbA hP hK hD hS) rfl rfl hl.1 rfl (lv_room (Nat.le_of_ble_eq_true rfl)) dX0_steps_13 ⟨Nat.le_of_ble_eq_true rfl, Nat.le_of_ble_eq_true rfl⟩) (fun r_ u_ H locs hp hP hD hS => ?_)
  subst hp
  refine lv_istore_n (lv' := [(2, .int (lw_cl L xs (2))), (1, .int (nI n)), (0, .ref b)]) hx hb dX0_steps_16 rfl hl (by decide) rfl (fun ls hl => ?_)
  obtain ⟨bits, hbits⟩ : ∃ bits, bits = lw_cl L xs (2) := ⟨_, rfl⟩
  rw [← hbits] at hl
  have hkk := wf_k_in bits
  refine lv_iconst (v := nI 1) hx hb dX0_steps_17 (by decide) ?_
  refine lv_iload_n hx hb dX0_steps_18 rfl (lv_at hl 0 rfl) ?_
  refine lv_ldc (v := 2147483647) hx hb hown (hts _ q153) dX0_steps_19 ?_
  refine lv_iand hx hb dX0_steps_21 ?_
  refine wr_topi (nI (wn_w bits % 2147483648)) (wf_and31 bits) ?_
  refine lv_bipush (v := 31) hx hb dX0_steps_22 (by decide) ?_
  refine lv_irem hx hb dX0_steps_24 (by decide) ?_
  refine wr_topi (nI (wn_w bits % 2147483648 % 31)) (wf_rem31 bits) ?_
  refine lv_iadd hx hb dX0_steps_25 ?_
  refine wr_topi (nI (wf_k bits)) (nI_add _ _) ?_
  refine lv_istore_n (lv' := [(3, .int (nI (wf_k bits))), (2, .int bits), (1, .int (nI n)), (0, .ref b)]) hx hb dX0_steps_26 rfl hl (by decide) rfl (fun ls hl => ?_)
  refine lv_iconst (v := nI 0) hx hb dX0_steps_27 (by decide) ?_
  refine lv_istore (lv' := [(4, .int (nI 0)), (3, .int (nI (wf_k bits))), (2, .int bits), (1, .int (nI n)), (0, .ref b)]) hx hb dX0_steps_28 hl (by decide) rfl (fun ls hl => ?_)
  have turn0 : ∀ (H : Heap) (locs : List Loc) (ls : Array Slot), va_P D vwCl ws H → va_D A ws → va_S A s.heap H locs → lv_has ls 12 [(4, .int (nI 0)), (0, .ref b), (1, .int (nI n)), (2, .int bits), (3, .int (nI (wf_k bits)))] → (∀ (H : Heap) (locs : List Loc) (ls : Array Slot), va_P D vwCl ws H → va_D A ws → va_S A s.heap H locs → lv_has ls 12 [(4, .int (nI 1)), (0, .ref b), (1, .int (nI n)), (2, .int bits), (3, .int (nI (wf_k bits)))] → W p l e (headSpec (ws_ yX0_steps cX0_steps 12 (some .boolean)) lw_rS).room s m (([.ref b] : List Value).toArray) below meth c H locs 26 262 (MQ below (va_Qi (fun (r : Int32) (_ : Unit) => r = 1) (fun _ t => wr_B D A ws t) A) (([.ref b] : List Value).toArray) s 130 1310 A) (F0 m 30 ls [])) → W p l e (headSpec (ws_ yX0_steps cX0_steps 12 (some .boolean)) lw_rS).room s m (([.ref b] : List Value).toArray) below meth c H locs 0 0 (MQ below (va_Qi (fun (r : Int32) (_ : Unit) => r = 1) (fun _ t => wr_B D A ws t) A) (([.ref b] : List Value).toArray) s 130 1310 A) (F0 m 30 ls []) := by
    intro H locs ls hP hD hS hl kk
    refine lv_iload hx hb dX0_steps_30 (lv_at hl 0 rfl) ?_
    refine lv_iconst (v := nI 4) hx hb dX0_steps_32 (by decide) ?_
    refine lv_icmp_ge (tgt := 344) hx hb dX0_steps_33 (by decide) (fun q_ => absurd q_ (by decide)) (fun _ => ?_)
    refine lv_aload_n hx hb dX0_steps_36 rfl (lv_at hl 1 rfl) ?_
    refine wr_callr hD hS hA (va_runS (As := [.ref b]) (rest := []) ⟨hx, hb, hml, hown, hts⟩ (c_three l D dI dF _ H.size b L xs hL n hn) (va_cwS 1 hts (lw_S q99 q100 q0 q101) rfl rfl rfl (by decide +kernel) ⟨Nat.le_of_ble_eq_true rfl, Nat.le_of_ble_eq_true rfl⟩) (wr_preX hX0 hbl hbA hP hK hD hS) rfl rfl hl.1 rfl (lv_room (Nat.le_of_ble_eq_true rfl)) dX0_steps_37 ⟨Nat.le_of_ble_eq_true rfl, Nat.le_of_ble_eq_true rfl⟩) (fun u qX H locs hp hP hD hS => ?_)
    obtain ⟨hl_, hp_, RX, wX, hX, hRX⟩ := hp
    have hpre : ∀ j, j < ws.length → u[j]? = ws[j]? := hp_
    have hlen : u.length = ws.length + 7 := hl_
    refine lv_astore (lv' := [(5, .ref qX), (4, .int (nI 0)), (0, .ref b), (1, .int (nI n)), (2, .int bits), (3, .int (nI (wf_k bits)))]) hx hb dX0_steps_40 hl (by decide) rfl (fun ls hl => ?_)
    refine lv_aload_n hx hb dX0_steps_42 rfl (lv_at hl 2 rfl) ?_
    refine wr_callr hD hS hA (va_runS (As := [.ref b]) (rest := []) ⟨hx, hb, hml, hown, hts⟩ (c_three l D dI dF _ H.size b L xs hL n hn) (va_cwS 1 hts (lw_S q99 q100 q0 q101) rfl rfl rfl (by decide +kernel) ⟨Nat.le_of_ble_eq_true rfl, Nat.le_of_ble_eq_true rfl⟩) (wr_preX hX0 hbl hbA hP hK hD hS) rfl rfl hl.1 rfl (lv_room (Nat.le_of_ble_eq_true rfl)) dX0_steps_43 ⟨Nat.le_of_ble_eq_true rfl, Nat.le_of_ble_eq_true rfl⟩) (fun u qY H locs hp hP hD hS => ?_)
    obtain ⟨hl_, hp_, RY, wY, hY, hRY⟩ := hp
    rw [hlen] at hl_ hY
    have hX := wf_mono hX (fun j _ h8 => hp_ j (by omega))
    have hpre : ∀ j, j < ws.length → u[j]? = ws[j]? := fun j hj => (hp_ j (by omega)).trans (hpre j hj)
    have hlen : u.length = ws.length + 14 := by omega
    refine lv_astore (lv' := [(6, .ref qY), (5, .ref qX), (4, .int (nI 0)), (0, .ref b), (1, .int (nI n)), (2, .int bits), (3, .int (nI (wf_k bits)))]) hx hb dX0_steps_46 hl (by decide) rfl (fun ls hl => ?_)
    refine W.widen (k := 26) (n := 262) (Nat.le_of_ble_eq_true rfl) (Nat.le_of_ble_eq_true rfl) ?_
    have hx0 : ∀ j, j < n → RX 0 j = lw_T L xs 0 j := fun j hj => hRX 0 j (by decide) hj
    have hy0 : ∀ j, j < n → RY 0 j = lw_T L xs 0 j := fun j hj => hRY 0 j (by decide) hj
    refine lv_iload hx hb dX0_steps_48 (lv_at hl 2 rfl) ?_
    refine lv_if_ne (tgt := 62) hx hb dX0_steps_50 (by decide) (fun q_ => absurd (by decide) q_) (fun _ => ?_)
    refine lv_aload hx hb dX0_steps_53 (lv_at hl 1 rfl) ?_
    refine lv_iconst (v := 0) hx hb dX0_steps_55 (by decide) ?_
    refine wr_calli0 hD hS hA (va_runV (As := [.int 0]) (rest := []) ⟨hx, hb, hml, hown, hts⟩ (f_more l D dI dF _ H.size _ _ _ _ _ hX hn1 hn2 0 0 (by decide) (by decide)) (cwV 1 hts (lw_V q70 q71 q72 q1 q73) rfl rfl rfl (by decide +kernel) ⟨Nat.le_of_ble_eq_true rfl, Nat.le_of_ble_eq_true rfl⟩) (wf_preV hX hP hK hD) rfl rfl hl.1 rfl (lv_room (Nat.le_of_ble_eq_true rfl)) dX0_steps_56 ⟨Nat.le_of_ble_eq_true rfl, Nat.le_of_ble_eq_true rfl⟩) (fun r_ u H locs hp hP hD hS => ?_)
    obtain ⟨hr_, hp⟩ := hp
    subst hr_
    have hY := wf_keep hp hY (by omega)
    have hpre : ∀ j, j < ws.length → u[j]? = ws[j]? := fun j hj => (hp.2.1 j (Or.inl (by omega))).trans (hpre j hj)
    have hlen : u.length = ws.length + 14 := hp.1.trans hlen
    have hX := hp.2.2
    obtain ⟨RX1, eRX1⟩ : ∃ z_, z_ = va_up RX 0 (wr_f (wn_iw (RX 0)) (RX 0) n) := ⟨_, rfl⟩
    rw [← eRX1] at hX
    refine wr_topi (wn_ig (lw_T L xs 0) n) (lw_ig_congr hx0 n (Nat.le_refl n)) ?_
    have fX : ∀ i, i < n → RX1 0 i = wn_iw (lw_T L xs 0) i := fun i hi => by rw [eRX1]; simp only [va_up, if_pos]; rw [wr_fl _ _ hi]; exact lw_iw_congr hx0 hi
    refine lv_goto (tgt := 100) hx hb dX0_steps_59 (by decide) ?_
    refine lv_istore (lv' := [(7, .int (wn_ig (lw_T L xs 0) n)), (6, .ref qY), (5, .ref qX), (4, .int (nI 0)), (0, .ref b), (1, .int (nI n)), (2, .int bits), (3, .int (nI (wf_k bits)))]) hx hb dX0_steps_100 hl (by decide) rfl (fun ls hl => ?_)
    refine lv_iconst (v := 1) hx hb dX0_steps_102 (by decide) ?_
    refine lv_istore (lv' := [(8, .int 1), (7, .int (wn_ig (lw_T L xs 0) n)), (6, .ref qY), (5, .ref qX), (4, .int (nI 0)), (0, .ref b), (1, .int (nI n)), (2, .int bits), (3, .int (nI (wf_k bits)))]) hx hb dX0_steps_103 hl (by decide) rfl (fun ls hl => ?_)
    refine lv_iconst (v := nI 0) hx hb dX0_steps_105 (by decide) ?_
    refine lv_istore (lv' := [(9, .int (nI 0)), (8, .int 1), (7, .int (wn_ig (lw_T L xs 0) n)), (6, .ref qY), (5, .ref qX), (4, .int (nI 0)), (0, .ref b), (1, .int (nI n)), (2, .int bits), (3, .int (nI (wf_k bits)))]) hx hb dX0_steps_106 hl (by decide) rfl (fun ls hl => ?_)
    have loop : (∀ (H : Heap) (locs : List Loc) (ls : Array Slot), va_P D vwCl u H → va_D A u → va_S A s.heap H locs → lv_has ls 12 [(9, .int (nI n)), (8, .int (wn_ig (lw_T L xs 0) n)), (7, .int (wn_ig (lw_T L xs 0) n)), (5, .ref qX), (6, .ref qY), (4, .int (nI 0)), (0, .ref b), (1, .int (nI n)), (2, .int bits), (3, .int (nI (wf_k bits)))] → W p l e (headSpec (ws_ yX0_steps cX0_steps 12 (some .boolean)) lw_rS).room s m (([.ref b] : List Value).toArray) below meth c H locs 26 262 (MQ below (va_Qi (fun (r : Int32) (_ : Unit) => r = 1) (fun _ t => wr_B D A ws t) A) (([.ref b] : List Value).toArray) s 130 1310 A) (F0 m 274 ls [])) → ∀ (k i : Nat) (H : Heap) (locs : List Loc) (ls : Array Slot), i + k = n → va_P D vwCl u H → va_D A u → va_S A s.heap H locs → lv_has ls 12 [(9, .int (nI i)), (8, .int (wn_ig (lw_T L xs 0) i)), (7, .int (wn_ig (lw_T L xs 0) n)), (5, .ref qX), (6, .ref qY), (4, .int (nI 0)), (0, .ref b), (1, .int (nI n)), (2, .int bits), (3, .int (nI (wf_k bits)))] → W p l e (headSpec (ws_ yX0_steps cX0_steps 12 (some .boolean)) lw_rS).room s m (([.ref b] : List Value).toArray) below meth c H locs 26 262 (MQ below (va_Qi (fun (r : Int32) (_ : Unit) => r = 1) (fun _ t => wr_B D A ws t) A) (([.ref b] : List Value).toArray) s 130 1310 A) (F0 m 108 ls []) := by
      intro kx k
      induction k with
      | zero =>
        intro i H locs ls hik hP hD hS hl
        have hin : i = n := by omega
        rw [hin] at hl
        refine lv_iload hx hb dX0_steps_108 (lv_at hl 0 rfl) ?_
        refine lv_iload_n hx hb dX0_steps_110 rfl (lv_at hl 7 rfl) ?_
        refine lv_icmp_ge (tgt := 274) hx hb dX0_steps_111 (by decide) (fun _ => ?_) (fun q_ => absurd (nI_le (Nat.le_refl n) hB) q_)
        exact kx H locs ls hP hD hS (lv_sub hl [0, 1, 2, 3, 4, 5, 6, 7, 8, 9] rfl)
      | succ k ih =>
        intro i H locs ls hik hP hD hS hl
        have hi : i < n := by omega
        refine lv_iload hx hb dX0_steps_108 (lv_at hl 0 rfl) ?_
        refine lv_iload_n hx hb dX0_steps_110 rfl (lv_at hl 7 rfl) ?_
        refine lv_icmp_ge (tgt := 274) hx hb dX0_steps_111 (by decide) (fun q_ => absurd q_ (nI_ge hi hB)) (fun _ => ?_)
        refine lv_aload hx hb dX0_steps_114 (lv_at hl 4 rfl) ?_
        refine lv_iconst (v := 0) hx hb dX0_steps_116 (by decide) ?_
        refine lv_iload hx hb dX0_steps_117 (lv_at hl 0 rfl) ?_
        refine wr_calli0 hD hS hA (va_runV (As := [.int 0, .int (nI i)]) (rest := []) ⟨hx, hb, hml, hown, hts⟩ (f_wordN l D dI dF _ H.size _ _ _ _ _ hY hn1 hn2 _ 0 (by decide) (by decide) (i) (hi)) (cwV 2 hts (lw_V q3 q4 q5 q1 q6) rfl rfl rfl (by decide +kernel) ⟨Nat.le_of_ble_eq_true rfl, Nat.le_of_ble_eq_true rfl⟩) (wf_preV hY hP hK hD) rfl rfl hl.1 rfl (lv_room (Nat.le_of_ble_eq_true rfl)) dX0_steps_119 ⟨Nat.le_of_ble_eq_true rfl, Nat.le_of_ble_eq_true rfl⟩) (fun r_ u_ H locs hp hP hD hS => ?_)
        subst hp
        refine wr_topi (lw_T L xs 0 i) (hy0 i hi) ?_
        refine lv_istore (lv' := [(10, .int (lw_T L xs 0 i)), (9, .int (nI i)), (8, .int (wn_ig (lw_T L xs 0) i)), (7, .int (wn_ig (lw_T L xs 0) n)), (5, .ref qX), (6, .ref qY), (4, .int (nI 0)), (0, .ref b), (1, .int (nI n)), (2, .int bits), (3, .int (nI (wf_k bits)))]) hx hb dX0_steps_122 hl (by decide) rfl (fun ls hl => ?_)
        refine lv_iload hx hb dX0_steps_124 (lv_at hl 6 rfl) ?_
        refine lv_if_ne (tgt := 137) hx hb dX0_steps_126 (by decide) (fun q_ => absurd (by decide) q_) (fun _ => ?_)
        refine lv_iload hx hb dX0_steps_129 (lv_at hl 0 rfl) ?_
        refine lv_iload hx hb dX0_steps_131 (lv_at hl 2 rfl) ?_
        refine lv_iadd hx hb dX0_steps_133 ?_
        refine wr_topi (wn_iw (lw_T L xs 0) i) (rfl) ?_
        refine lv_goto (tgt := 221) hx hb dX0_steps_134 (by decide) ?_
        refine lv_istore (lv' := [(11, .int (wn_iw (lw_T L xs 0) i)), (10, .int (lw_T L xs 0 i)), (9, .int (nI i)), (8, .int (wn_ig (lw_T L xs 0) i)), (7, .int (wn_ig (lw_T L xs 0) n)), (5, .ref qX), (6, .ref qY), (4, .int (nI 0)), (0, .ref b), (1, .int (nI n)), (2, .int bits), (3, .int (nI (wf_k bits)))]) hx hb dX0_steps_221 hl (by decide) rfl (fun ls hl => ?_)
        refine lv_aload hx hb dX0_steps_223 (lv_at hl 5 rfl) ?_
        refine lv_iconst (v := 0) hx hb dX0_steps_225 (by decide) ?_
        refine lv_iload hx hb dX0_steps_226 (lv_at hl 2 rfl) ?_
        refine wr_calli0 hD hS hA (va_runV (As := [.int 0, .int (nI i)]) (rest := []) ⟨hx, hb, hml, hown, hts⟩ (f_wordN l D dI dF _ H.size _ _ _ _ _ hX hn1 hn2 _ 0 (by decide) (by decide) (i) (hi)) (cwV 2 hts (lw_V q3 q4 q5 q1 q6) rfl rfl rfl (by decide +kernel) ⟨Nat.le_of_ble_eq_true rfl, Nat.le_of_ble_eq_true rfl⟩) (wf_preV hX hP hK hD) rfl rfl hl.1 rfl (lv_room (Nat.le_of_ble_eq_true rfl)) dX0_steps_228 ⟨Nat.le_of_ble_eq_true rfl, Nat.le_of_ble_eq_true rfl⟩) (fun r_ u_ H locs hp hP hD hS => ?_)
        subst hp
        refine lv_iload hx hb dX0_steps_231 (lv_at hl 0 rfl) ?_
        refine lv_icmp_eq (tgt := 238) hx hb dX0_steps_233 (by decide) (fun _ => ?_) (fun q_ => absurd (fX i hi) q_)
        refine lv_iload hx hb dX0_steps_238 (lv_at hl 7 rfl) ?_
        refine lv_if_ne (tgt := 248) hx hb dX0_steps_240 (by decide) (fun q_ => absurd (by decide) q_) (fun _ => ?_)
        refine lv_iload hx hb dX0_steps_243 (lv_at hl 0 rfl) ?_
        refine lv_if_eq (tgt := 260) hx hb dX0_steps_245 (by decide) (fun q_ => ?_) (fun q_ => ?_)
        · skip
          refine lv_iload hx hb dX0_steps_260 (lv_at hl 3 rfl) ?_
          refine lv_goto (tgt := 266) hx hb dX0_steps_262 (by decide) ?_
          refine wr_topi (wn_ig (lw_T L xs 0) (i + 1)) ((if_pos q_).symm) ?_
          refine lv_istore (lv' := [(8, .int (wn_ig (lw_T L xs 0) (i + 1))), (11, .int (wn_iw (lw_T L xs 0) i)), (10, .int (lw_T L xs 0 i)), (9, .int (nI i)), (7, .int (wn_ig (lw_T L xs 0) n)), (5, .ref qX), (6, .ref qY), (4, .int (nI 0)), (0, .ref b), (1, .int (nI n)), (2, .int bits), (3, .int (nI (wf_k bits)))]) hx hb dX0_steps_266 hl (by decide) rfl (fun ls hl => ?_)
          refine lv_iinc (v := nI (i + 1)) (lv' := [(9, .int (nI (i + 1))), (8, .int (wn_ig (lw_T L xs 0) (i + 1))), (11, .int (wn_iw (lw_T L xs 0) i)), (10, .int (lw_T L xs 0 i)), (7, .int (wn_ig (lw_T L xs 0) n)), (5, .ref qX), (6, .ref qY), (4, .int (nI 0)), (0, .ref b), (1, .int (nI n)), (2, .int bits), (3, .int (nI (wf_k bits)))]) hx hb dX0_steps_268 hl (k := 3) rfl (wn_inc i) (by decide) rfl (fun ls hl => ?_)
          refine lv_goto (tgt := 108) hx hb dX0_steps_271 (by decide) ?_
          exact ih (i + 1) H locs ls (by omega) hP hD hS (lv_sub hl [0, 1, 4, 5, 6, 7, 8, 9, 10, 11] rfl)
        · skip
          refine lv_iload hx hb dX0_steps_248 (lv_at hl 7 rfl) ?_
          refine lv_iconst (v := nI 1) hx hb dX0_steps_250 (by decide) ?_
          refine lv_icmp_ne (tgt := 265) hx hb dX0_steps_251 (by decide) (fun _ => ?_) (fun q_ => absurd q_ (by decide))
          refine lv_iconst (v := 0) hx hb dX0_steps_265 (by decide) ?_
          refine wr_topi (wn_ig (lw_T L xs 0) (i + 1)) ((if_neg q_).symm) ?_
          refine lv_istore (lv' := [(8, .int (wn_ig (lw_T L xs 0) (i + 1))), (11, .int (wn_iw (lw_T L xs 0) i)), (10, .int (lw_T L xs 0 i)), (9, .int (nI i)), (7, .int (wn_ig (lw_T L xs 0) n)), (5, .ref qX), (6, .ref qY), (4, .int (nI 0)), (0, .ref b), (1, .int (nI n)), (2, .int bits), (3, .int (nI (wf_k bits)))]) hx hb dX0_steps_266 hl (by decide) rfl (fun ls hl => ?_)
          refine lv_iinc (v := nI (i + 1)) (lv' := [(9, .int (nI (i + 1))), (8, .int (wn_ig (lw_T L xs 0) (i + 1))), (11, .int (wn_iw (lw_T L xs 0) i)), (10, .int (lw_T L xs 0 i)), (7, .int (wn_ig (lw_T L xs 0) n)), (5, .ref qX), (6, .ref qY), (4, .int (nI 0)), (0, .ref b), (1, .int (nI n)), (2, .int bits), (3, .int (nI (wf_k bits)))]) hx hb dX0_steps_268 hl (k := 3) rfl (wn_inc i) (by decide) rfl (fun ls hl => ?_)
          refine lv_goto (tgt := 108) hx hb dX0_steps_271 (by decide) ?_
          exact ih (i + 1) H locs ls (by omega) hP hD hS (lv_sub hl [0, 1, 4, 5, 6, 7, 8, 9, 10, 11] rfl)
    refine loop ?_ n 0 H locs ls (by omega) hP hD hS (lv_sub hl [0, 1, 2, 4, 3, 5, 6, 7, 8, 9] rfl)
    clear loop
    intro H locs ls hP hD hS hl
    refine lv_iload hx hb dX0_steps_274 (lv_at hl 2 rfl) ?_
    refine lv_iload hx hb dX0_steps_276 (lv_at hl 5 rfl) ?_
    refine lv_if_ne (tgt := 286) hx hb dX0_steps_278 (by decide) (fun q_ => absurd (by decide) q_) (fun _ => ?_)
    refine lv_iload hx hb dX0_steps_281 (lv_at hl 1 rfl) ?_
    refine lv_goto (tgt := 333) hx hb dX0_steps_283 (by decide) ?_
    refine lv_icmp_eq (tgt := 338) hx hb dX0_steps_333 (by decide) (fun _ => ?_) (fun q_ => absurd rfl q_)
    refine lv_iinc (v := nI 1) (lv' := [(4, .int (nI 1)), (9, .int (nI n)), (8, .int (wn_ig (lw_T L xs 0) n)), (7, .int (wn_ig (lw_T L xs 0) n)), (5, .ref qX), (6, .ref qY), (0, .ref b), (1, .int (nI n)), (2, .int bits), (3, .int (nI (wf_k bits)))]) hx hb dX0_steps_338 hl (k := 5) rfl (wn_inc 0) (by decide) rfl (fun ls hl => ?_)
    refine lv_goto (tgt := 30) hx hb dX0_steps_341 (by decide) ?_
    exact kk H locs ls (lw_preP hpre hP) (lw_preD hpre hD) hS (lv_sub hl [0, 6, 7, 8, 9] rfl)
  have turn1 : ∀ (H : Heap) (locs : List Loc) (ls : Array Slot), va_P D vwCl ws H → va_D A ws → va_S A s.heap H locs → lv_has ls 12 [(4, .int (nI 1)), (0, .ref b), (1, .int (nI n)), (2, .int bits), (3, .int (nI (wf_k bits)))] → (∀ (H : Heap) (locs : List Loc) (ls : Array Slot), va_P D vwCl ws H → va_D A ws → va_S A s.heap H locs → lv_has ls 12 [(4, .int (nI 2)), (0, .ref b), (1, .int (nI n)), (2, .int bits), (3, .int (nI (wf_k bits)))] → W p l e (headSpec (ws_ yX0_steps cX0_steps 12 (some .boolean)) lw_rS).room s m (([.ref b] : List Value).toArray) below meth c H locs 52 524 (MQ below (va_Qi (fun (r : Int32) (_ : Unit) => r = 1) (fun _ t => wr_B D A ws t) A) (([.ref b] : List Value).toArray) s 130 1310 A) (F0 m 30 ls [])) → W p l e (headSpec (ws_ yX0_steps cX0_steps 12 (some .boolean)) lw_rS).room s m (([.ref b] : List Value).toArray) below meth c H locs 26 262 (MQ below (va_Qi (fun (r : Int32) (_ : Unit) => r = 1) (fun _ t => wr_B D A ws t) A) (([.ref b] : List Value).toArray) s 130 1310 A) (F0 m 30 ls []) := by
    intro H locs ls hP hD hS hl kk
    refine lv_iload hx hb dX0_steps_30 (lv_at hl 0 rfl) ?_
    refine lv_iconst (v := nI 4) hx hb dX0_steps_32 (by decide) ?_
    refine lv_icmp_ge (tgt := 344) hx hb dX0_steps_33 (by decide) (fun q_ => absurd q_ (by decide)) (fun _ => ?_)
    refine lv_aload_n hx hb dX0_steps_36 rfl (lv_at hl 1 rfl) ?_
    refine wr_callr hD hS hA (va_runS (As := [.ref b]) (rest := []) ⟨hx, hb, hml, hown, hts⟩ (c_three l D dI dF _ H.size b L xs hL n hn) (va_cwS 1 hts (lw_S q99 q100 q0 q101) rfl rfl rfl (by decide +kernel) ⟨Nat.le_of_ble_eq_true rfl, Nat.le_of_ble_eq_true rfl⟩) (wr_preX hX0 hbl hbA hP hK hD hS) rfl rfl hl.1 rfl (lv_room (Nat.le_of_ble_eq_true rfl)) dX0_steps_37 ⟨Nat.le_of_ble_eq_true rfl, Nat.le_of_ble_eq_true rfl⟩) (fun u qX H locs hp hP hD hS => ?_)
    obtain ⟨hl_, hp_, RX, wX, hX, hRX⟩ := hp
    have hpre : ∀ j, j < ws.length → u[j]? = ws[j]? := hp_
    have hlen : u.length = ws.length + 7 := hl_
    refine lv_astore (lv' := [(5, .ref qX), (4, .int (nI 1)), (0, .ref b), (1, .int (nI n)), (2, .int bits), (3, .int (nI (wf_k bits)))]) hx hb dX0_steps_40 hl (by decide) rfl (fun ls hl => ?_)
    refine lv_aload_n hx hb dX0_steps_42 rfl (lv_at hl 2 rfl) ?_
    refine wr_callr hD hS hA (va_runS (As := [.ref b]) (rest := []) ⟨hx, hb, hml, hown, hts⟩ (c_three l D dI dF _ H.size b L xs hL n hn) (va_cwS 1 hts (lw_S q99 q100 q0 q101) rfl rfl rfl (by decide +kernel) ⟨Nat.le_of_ble_eq_true rfl, Nat.le_of_ble_eq_true rfl⟩) (wr_preX hX0 hbl hbA hP hK hD hS) rfl rfl hl.1 rfl (lv_room (Nat.le_of_ble_eq_true rfl)) dX0_steps_43 ⟨Nat.le_of_ble_eq_true rfl, Nat.le_of_ble_eq_true rfl⟩) (fun u qY H locs hp hP hD hS => ?_)
    obtain ⟨hl_, hp_, RY, wY, hY, hRY⟩ := hp
    rw [hlen] at hl_ hY
    have hX := wf_mono hX (fun j _ h8 => hp_ j (by omega))
    have hpre : ∀ j, j < ws.length → u[j]? = ws[j]? := fun j hj => (hp_ j (by omega)).trans (hpre j hj)
    have hlen : u.length = ws.length + 14 := by omega
    refine lv_astore (lv' := [(6, .ref qY), (5, .ref qX), (4, .int (nI 1)), (0, .ref b), (1, .int (nI n)), (2, .int bits), (3, .int (nI (wf_k bits)))]) hx hb dX0_steps_46 hl (by decide) rfl (fun ls hl => ?_)
    refine W.widen (k := 52) (n := 524) (Nat.le_of_ble_eq_true rfl) (Nat.le_of_ble_eq_true rfl) ?_
    have hx0 : ∀ j, j < n → RX 0 j = lw_T L xs 0 j := fun j hj => hRX 0 j (by decide) hj
    have hy0 : ∀ j, j < n → RY 0 j = lw_T L xs 0 j := fun j hj => hRY 0 j (by decide) hj
    refine lv_iload hx hb dX0_steps_48 (lv_at hl 2 rfl) ?_
    refine lv_if_ne (tgt := 62) hx hb dX0_steps_50 (by decide) (fun _ => ?_) (fun q_ => absurd q_ (by decide))
    refine lv_iload hx hb dX0_steps_62 (lv_at hl 2 rfl) ?_
    refine lv_iconst (v := nI 1) hx hb dX0_steps_64 (by decide) ?_
    refine lv_icmp_ne (tgt := 77) hx hb dX0_steps_65 (by decide) (fun q_ => absurd (by decide) q_) (fun _ => ?_)
    refine lv_aload hx hb dX0_steps_68 (lv_at hl 1 rfl) ?_
    refine lv_iconst (v := 0) hx hb dX0_steps_70 (by decide) ?_
    refine wr_calli0 hD hS hA (va_runV (As := [.int 0]) (rest := []) ⟨hx, hb, hml, hown, hts⟩ (f_less l D dI dF _ H.size _ _ _ _ _ hX hn1 hn2 0 0 (by decide) (by decide)) (cwV 1 hts (lw_V q77 q78 q79 q1 q80) rfl rfl rfl (by decide +kernel) ⟨Nat.le_of_ble_eq_true rfl, Nat.le_of_ble_eq_true rfl⟩) (wf_preV hX hP hK hD) rfl rfl hl.1 rfl (lv_room (Nat.le_of_ble_eq_true rfl)) dX0_steps_71 ⟨Nat.le_of_ble_eq_true rfl, Nat.le_of_ble_eq_true rfl⟩) (fun r_ u H locs hp hP hD hS => ?_)
    obtain ⟨hr_, hp⟩ := hp
    subst hr_
    have hY := wf_keep hp hY (by omega)
    have hpre : ∀ j, j < ws.length → u[j]? = ws[j]? := fun j hj => (hp.2.1 j (Or.inl (by omega))).trans (hpre j hj)
    have hlen : u.length = ws.length + 14 := hp.1.trans hlen
    have hX := hp.2.2
    obtain ⟨RX1, eRX1⟩ : ∃ z_, z_ = va_up RX 0 (wr_f (wn_dw (RX 0)) (RX 0) n) := ⟨_, rfl⟩
    rw [← eRX1] at hX
    refine wr_topi (-(wn_dg (lw_T L xs 0) n)) (by rw [lw_dg_congr hx0 n (Nat.le_refl n)]) ?_
    have fX : ∀ i, i < n → RX1 0 i = wn_dw (lw_T L xs 0) i := fun i hi => by rw [eRX1]; simp only [va_up, if_pos]; rw [wr_fl _ _ hi]; exact lw_dw_congr hx0 hi
    refine lv_goto (tgt := 100) hx hb dX0_steps_74 (by decide) ?_
    refine lv_istore (lv' := [(7, .int (-(wn_dg (lw_T L xs 0) n))), (6, .ref qY), (5, .ref qX), (4, .int (nI 1)), (0, .ref b), (1, .int (nI n)), (2, .int bits), (3, .int (nI (wf_k bits)))]) hx hb dX0_steps_100 hl (by decide) rfl (fun ls hl => ?_)
    refine lv_iconst (v := 1) hx hb dX0_steps_102 (by decide) ?_
    refine lv_istore (lv' := [(8, .int 1), (7, .int (-(wn_dg (lw_T L xs 0) n))), (6, .ref qY), (5, .ref qX), (4, .int (nI 1)), (0, .ref b), (1, .int (nI n)), (2, .int bits), (3, .int (nI (wf_k bits)))]) hx hb dX0_steps_103 hl (by decide) rfl (fun ls hl => ?_)
    refine lv_iconst (v := nI 0) hx hb dX0_steps_105 (by decide) ?_
    refine lv_istore (lv' := [(9, .int (nI 0)), (8, .int 1), (7, .int (-(wn_dg (lw_T L xs 0) n))), (6, .ref qY), (5, .ref qX), (4, .int (nI 1)), (0, .ref b), (1, .int (nI n)), (2, .int bits), (3, .int (nI (wf_k bits)))]) hx hb dX0_steps_106 hl (by decide) rfl (fun ls hl => ?_)
    have loop : (∀ (H : Heap) (locs : List Loc) (ls : Array Slot), va_P D vwCl u H → va_D A u → va_S A s.heap H locs → lv_has ls 12 [(9, .int (nI n)), (8, .int (wn_dg (lw_T L xs 0) n)), (7, .int (-(wn_dg (lw_T L xs 0) n))), (5, .ref qX), (6, .ref qY), (4, .int (nI 1)), (0, .ref b), (1, .int (nI n)), (2, .int bits), (3, .int (nI (wf_k bits)))] → W p l e (headSpec (ws_ yX0_steps cX0_steps 12 (some .boolean)) lw_rS).room s m (([.ref b] : List Value).toArray) below meth c H locs 52 524 (MQ below (va_Qi (fun (r : Int32) (_ : Unit) => r = 1) (fun _ t => wr_B D A ws t) A) (([.ref b] : List Value).toArray) s 130 1310 A) (F0 m 274 ls [])) → ∀ (k i : Nat) (H : Heap) (locs : List Loc) (ls : Array Slot), i + k = n → va_P D vwCl u H → va_D A u → va_S A s.heap H locs → lv_has ls 12 [(9, .int (nI i)), (8, .int (wn_dg (lw_T L xs 0) i)), (7, .int (-(wn_dg (lw_T L xs 0) n))), (5, .ref qX), (6, .ref qY), (4, .int (nI 1)), (0, .ref b), (1, .int (nI n)), (2, .int bits), (3, .int (nI (wf_k bits)))] → W p l e (headSpec (ws_ yX0_steps cX0_steps 12 (some .boolean)) lw_rS).room s m (([.ref b] : List Value).toArray) below meth c H locs 52 524 (MQ below (va_Qi (fun (r : Int32) (_ : Unit) => r = 1) (fun _ t => wr_B D A ws t) A) (([.ref b] : List Value).toArray) s 130 1310 A) (F0 m 108 ls []) := by
      intro kx k
      induction k with
      | zero =>
        intro i H locs ls hik hP hD hS hl
        have hin : i = n := by omega
        rw [hin] at hl
        refine lv_iload hx hb dX0_steps_108 (lv_at hl 0 rfl) ?_
        refine lv_iload_n hx hb dX0_steps_110 rfl (lv_at hl 7 rfl) ?_
        refine lv_icmp_ge (tgt := 274) hx hb dX0_steps_111 (by decide) (fun _ => ?_) (fun q_ => absurd (nI_le (Nat.le_refl n) hB) q_)
        exact kx H locs ls hP hD hS (lv_sub hl [0, 1, 2, 3, 4, 5, 6, 7, 8, 9] rfl)
      | succ k ih =>
        intro i H locs ls hik hP hD hS hl
        have hi : i < n := by omega
        refine lv_iload hx hb dX0_steps_108 (lv_at hl 0 rfl) ?_
        refine lv_iload_n hx hb dX0_steps_110 rfl (lv_at hl 7 rfl) ?_
        refine lv_icmp_ge (tgt := 274) hx hb dX0_steps_111 (by decide) (fun q_ => absurd q_ (nI_ge hi hB)) (fun _ => ?_)
        refine lv_aload hx hb dX0_steps_114 (lv_at hl 4 rfl) ?_
        refine lv_iconst (v := 0) hx hb dX0_steps_116 (by decide) ?_
        refine lv_iload hx hb dX0_steps_117 (lv_at hl 0 rfl) ?_
        refine wr_calli0 hD hS hA (va_runV (As := [.int 0, .int (nI i)]) (rest := []) ⟨hx, hb, hml, hown, hts⟩ (f_wordN l D dI dF _ H.size _ _ _ _ _ hY hn1 hn2 _ 0 (by decide) (by decide) (i) (hi)) (cwV 2 hts (lw_V q3 q4 q5 q1 q6) rfl rfl rfl (by decide +kernel) ⟨Nat.le_of_ble_eq_true rfl, Nat.le_of_ble_eq_true rfl⟩) (wf_preV hY hP hK hD) rfl rfl hl.1 rfl (lv_room (Nat.le_of_ble_eq_true rfl)) dX0_steps_119 ⟨Nat.le_of_ble_eq_true rfl, Nat.le_of_ble_eq_true rfl⟩) (fun r_ u_ H locs hp hP hD hS => ?_)
        subst hp
        refine wr_topi (lw_T L xs 0 i) (hy0 i hi) ?_
        refine lv_istore (lv' := [(10, .int (lw_T L xs 0 i)), (9, .int (nI i)), (8, .int (wn_dg (lw_T L xs 0) i)), (7, .int (-(wn_dg (lw_T L xs 0) n))), (5, .ref qX), (6, .ref qY), (4, .int (nI 1)), (0, .ref b), (1, .int (nI n)), (2, .int bits), (3, .int (nI (wf_k bits)))]) hx hb dX0_steps_122 hl (by decide) rfl (fun ls hl => ?_)
        refine lv_iload hx hb dX0_steps_124 (lv_at hl 6 rfl) ?_
        refine lv_if_ne (tgt := 137) hx hb dX0_steps_126 (by decide) (fun _ => ?_) (fun q_ => absurd q_ (by decide))
        refine lv_iload hx hb dX0_steps_137 (lv_at hl 6 rfl) ?_
        refine lv_iconst (v := nI 1) hx hb dX0_steps_139 (by decide) ?_
        refine lv_icmp_ne (tgt := 151) hx hb dX0_steps_140 (by decide) (fun q_ => absurd (by decide) q_) (fun _ => ?_)
        refine lv_iload hx hb dX0_steps_143 (lv_at hl 0 rfl) ?_
        refine lv_iload hx hb dX0_steps_145 (lv_at hl 2 rfl) ?_
        refine lv_isub hx hb dX0_steps_147 ?_
        refine wr_topi (wn_dw (lw_T L xs 0) i) (rfl) ?_
        refine lv_goto (tgt := 221) hx hb dX0_steps_148 (by decide) ?_
        refine lv_istore (lv' := [(11, .int (wn_dw (lw_T L xs 0) i)), (10, .int (lw_T L xs 0 i)), (9, .int (nI i)), (8, .int (wn_dg (lw_T L xs 0) i)), (7, .int (-(wn_dg (lw_T L xs 0) n))), (5, .ref qX), (6, .ref qY), (4, .int (nI 1)), (0, .ref b), (1, .int (nI n)), (2, .int bits), (3, .int (nI (wf_k bits)))]) hx hb dX0_steps_221 hl (by decide) rfl (fun ls hl => ?_)
        refine lv_aload hx hb dX0_steps_223 (lv_at hl 5 rfl) ?_
        refine lv_iconst (v := 0) hx hb dX0_steps_225 (by decide) ?_
        refine lv_iload hx hb dX0_steps_226 (lv_at hl 2 rfl) ?_
        refine wr_calli0 hD hS hA (va_runV (As := [.int 0, .int (nI i)]) (rest := []) ⟨hx, hb, hml, hown, hts⟩ (f_wordN l D dI dF _ H.size _ _ _ _ _ hX hn1 hn2 _ 0 (by decide) (by decide) (i) (hi)) (cwV 2 hts (lw_V q3 q4 q5 q1 q6) rfl rfl rfl (by decide +kernel) ⟨Nat.le_of_ble_eq_true rfl, Nat.le_of_ble_eq_true rfl⟩) (wf_preV hX hP hK hD) rfl rfl hl.1 rfl (lv_room (Nat.le_of_ble_eq_true rfl)) dX0_steps_228 ⟨Nat.le_of_ble_eq_true rfl, Nat.le_of_ble_eq_true rfl⟩) (fun r_ u_ H locs hp hP hD hS => ?_)
        subst hp
        refine lv_iload hx hb dX0_steps_231 (lv_at hl 0 rfl) ?_
        refine lv_icmp_eq (tgt := 238) hx hb dX0_steps_233 (by decide) (fun _ => ?_) (fun q_ => absurd (fX i hi) q_)
        refine lv_iload hx hb dX0_steps_238 (lv_at hl 7 rfl) ?_
        refine lv_if_ne (tgt := 248) hx hb dX0_steps_240 (by decide) (fun _ => ?_) (fun q_ => absurd q_ (by decide))
        refine lv_iload hx hb dX0_steps_248 (lv_at hl 7 rfl) ?_
        refine lv_iconst (v := nI 1) hx hb dX0_steps_250 (by decide) ?_
        refine lv_icmp_ne (tgt := 265) hx hb dX0_steps_251 (by decide) (fun q_ => absurd (by decide) q_) (fun _ => ?_)
        refine lv_iload hx hb dX0_steps_254 (lv_at hl 0 rfl) ?_
        refine lv_iconst (v := (-1)) hx hb dX0_steps_256 (by decide) ?_
        refine lv_icmp_ne (tgt := 265) hx hb dX0_steps_257 (by decide) (fun q_ => ?_) (fun q_ => ?_)
        · skip
          refine lv_iconst (v := 0) hx hb dX0_steps_265 (by decide) ?_
          refine wr_topi (wn_dg (lw_T L xs 0) (i + 1)) ((if_neg q_).symm) ?_
          refine lv_istore (lv' := [(8, .int (wn_dg (lw_T L xs 0) (i + 1))), (11, .int (wn_dw (lw_T L xs 0) i)), (10, .int (lw_T L xs 0 i)), (9, .int (nI i)), (7, .int (-(wn_dg (lw_T L xs 0) n))), (5, .ref qX), (6, .ref qY), (4, .int (nI 1)), (0, .ref b), (1, .int (nI n)), (2, .int bits), (3, .int (nI (wf_k bits)))]) hx hb dX0_steps_266 hl (by decide) rfl (fun ls hl => ?_)
          refine lv_iinc (v := nI (i + 1)) (lv' := [(9, .int (nI (i + 1))), (8, .int (wn_dg (lw_T L xs 0) (i + 1))), (11, .int (wn_dw (lw_T L xs 0) i)), (10, .int (lw_T L xs 0 i)), (7, .int (-(wn_dg (lw_T L xs 0) n))), (5, .ref qX), (6, .ref qY), (4, .int (nI 1)), (0, .ref b), (1, .int (nI n)), (2, .int bits), (3, .int (nI (wf_k bits)))]) hx hb dX0_steps_268 hl (k := 3) rfl (wn_inc i) (by decide) rfl (fun ls hl => ?_)
          refine lv_goto (tgt := 108) hx hb dX0_steps_271 (by decide) ?_
          exact ih (i + 1) H locs ls (by omega) hP hD hS (lv_sub hl [0, 1, 4, 5, 6, 7, 8, 9, 10, 11] rfl)
        · skip
          refine lv_iload hx hb dX0_steps_260 (lv_at hl 3 rfl) ?_
          refine lv_goto (tgt := 266) hx hb dX0_steps_262 (by decide) ?_
          refine wr_topi (wn_dg (lw_T L xs 0) (i + 1)) ((if_pos q_).symm) ?_
          refine lv_istore (lv' := [(8, .int (wn_dg (lw_T L xs 0) (i + 1))), (11, .int (wn_dw (lw_T L xs 0) i)), (10, .int (lw_T L xs 0 i)), (9, .int (nI i)), (7, .int (-(wn_dg (lw_T L xs 0) n))), (5, .ref qX), (6, .ref qY), (4, .int (nI 1)), (0, .ref b), (1, .int (nI n)), (2, .int bits), (3, .int (nI (wf_k bits)))]) hx hb dX0_steps_266 hl (by decide) rfl (fun ls hl => ?_)
          refine lv_iinc (v := nI (i + 1)) (lv' := [(9, .int (nI (i + 1))), (8, .int (wn_dg (lw_T L xs 0) (i + 1))), (11, .int (wn_dw (lw_T L xs 0) i)), (10, .int (lw_T L xs 0 i)), (7, .int (-(wn_dg (lw_T L xs 0) n))), (5, .ref qX), (6, .ref qY), (4, .int (nI 1)), (0, .ref b), (1, .int (nI n)), (2, .int bits), (3, .int (nI (wf_k bits)))]) hx hb dX0_steps_268 hl (k := 3) rfl (wn_inc i) (by decide) rfl (fun ls hl => ?_)
          refine lv_goto (tgt := 108) hx hb dX0_steps_271 (by decide) ?_
          exact ih (i + 1) H locs ls (by omega) hP hD hS (lv_sub hl [0, 1, 4, 5, 6, 7, 8, 9, 10, 11] rfl)
    refine loop ?_ n 0 H locs ls (by omega) hP hD hS (lv_sub hl [0, 1, 2, 4, 3, 5, 6, 7, 8, 9] rfl)
    clear loop
    intro H locs ls hP hD hS hl
    refine lv_iload hx hb dX0_steps_274 (lv_at hl 2 rfl) ?_
    refine lv_iload hx hb dX0_steps_276 (lv_at hl 5 rfl) ?_
    refine lv_if_ne (tgt := 286) hx hb dX0_steps_278 (by decide) (fun _ => ?_) (fun q_ => absurd q_ (by decide))
    refine lv_iload hx hb dX0_steps_286 (lv_at hl 5 rfl) ?_
    refine lv_iconst (v := nI 1) hx hb dX0_steps_288 (by decide) ?_
    refine lv_icmp_ne (tgt := 298) hx hb dX0_steps_289 (by decide) (fun q_ => absurd (by decide) q_) (fun _ => ?_)
    refine lv_iload hx hb dX0_steps_292 (lv_at hl 1 rfl) ?_
    refine lv_ineg hx hb dX0_steps_294 ?_
    refine lv_goto (tgt := 333) hx hb dX0_steps_295 (by decide) ?_
    refine lv_icmp_eq (tgt := 338) hx hb dX0_steps_333 (by decide) (fun _ => ?_) (fun q_ => absurd rfl q_)
    refine lv_iinc (v := nI 2) (lv' := [(4, .int (nI 2)), (9, .int (nI n)), (8, .int (wn_dg (lw_T L xs 0) n)), (7, .int (-(wn_dg (lw_T L xs 0) n))), (5, .ref qX), (6, .ref qY), (0, .ref b), (1, .int (nI n)), (2, .int bits), (3, .int (nI (wf_k bits)))]) hx hb dX0_steps_338 hl (k := 5) rfl (wn_inc 1) (by decide) rfl (fun ls hl => ?_)
    refine lv_goto (tgt := 30) hx hb dX0_steps_341 (by decide) ?_
    exact kk H locs ls (lw_preP hpre hP) (lw_preD hpre hD) hS (lv_sub hl [0, 6, 7, 8, 9] rfl)
  have turn2 : ∀ (H : Heap) (locs : List Loc) (ls : Array Slot), va_P D vwCl ws H → va_D A ws → va_S A s.heap H locs → lv_has ls 12 [(4, .int (nI 2)), (0, .ref b), (1, .int (nI n)), (2, .int bits), (3, .int (nI (wf_k bits)))] → (∀ (H : Heap) (locs : List Loc) (ls : Array Slot), va_P D vwCl ws H → va_D A ws → va_S A s.heap H locs → lv_has ls 12 [(4, .int (nI 3)), (0, .ref b), (1, .int (nI n)), (2, .int bits), (3, .int (nI (wf_k bits)))] → W p l e (headSpec (ws_ yX0_steps cX0_steps 12 (some .boolean)) lw_rS).room s m (([.ref b] : List Value).toArray) below meth c H locs 78 786 (MQ below (va_Qi (fun (r : Int32) (_ : Unit) => r = 1) (fun _ t => wr_B D A ws t) A) (([.ref b] : List Value).toArray) s 130 1310 A) (F0 m 30 ls [])) → W p l e (headSpec (ws_ yX0_steps cX0_steps 12 (some .boolean)) lw_rS).room s m (([.ref b] : List Value).toArray) below meth c H locs 52 524 (MQ below (va_Qi (fun (r : Int32) (_ : Unit) => r = 1) (fun _ t => wr_B D A ws t) A) (([.ref b] : List Value).toArray) s 130 1310 A) (F0 m 30 ls []) := by
    intro H locs ls hP hD hS hl kk
    refine lv_iload hx hb dX0_steps_30 (lv_at hl 0 rfl) ?_
    refine lv_iconst (v := nI 4) hx hb dX0_steps_32 (by decide) ?_
    refine lv_icmp_ge (tgt := 344) hx hb dX0_steps_33 (by decide) (fun q_ => absurd q_ (by decide)) (fun _ => ?_)
    refine lv_aload_n hx hb dX0_steps_36 rfl (lv_at hl 1 rfl) ?_
    refine wr_callr hD hS hA (va_runS (As := [.ref b]) (rest := []) ⟨hx, hb, hml, hown, hts⟩ (c_three l D dI dF _ H.size b L xs hL n hn) (va_cwS 1 hts (lw_S q99 q100 q0 q101) rfl rfl rfl (by decide +kernel) ⟨Nat.le_of_ble_eq_true rfl, Nat.le_of_ble_eq_true rfl⟩) (wr_preX hX0 hbl hbA hP hK hD hS) rfl rfl hl.1 rfl (lv_room (Nat.le_of_ble_eq_true rfl)) dX0_steps_37 ⟨Nat.le_of_ble_eq_true rfl, Nat.le_of_ble_eq_true rfl⟩) (fun u qX H locs hp hP hD hS => ?_)
    obtain ⟨hl_, hp_, RX, wX, hX, hRX⟩ := hp
    have hpre : ∀ j, j < ws.length → u[j]? = ws[j]? := hp_
    have hlen : u.length = ws.length + 7 := hl_
    refine lv_astore (lv' := [(5, .ref qX), (4, .int (nI 2)), (0, .ref b), (1, .int (nI n)), (2, .int bits), (3, .int (nI (wf_k bits)))]) hx hb dX0_steps_40 hl (by decide) rfl (fun ls hl => ?_)
    refine lv_aload_n hx hb dX0_steps_42 rfl (lv_at hl 2 rfl) ?_
    refine wr_callr hD hS hA (va_runS (As := [.ref b]) (rest := []) ⟨hx, hb, hml, hown, hts⟩ (c_three l D dI dF _ H.size b L xs hL n hn) (va_cwS 1 hts (lw_S q99 q100 q0 q101) rfl rfl rfl (by decide +kernel) ⟨Nat.le_of_ble_eq_true rfl, Nat.le_of_ble_eq_true rfl⟩) (wr_preX hX0 hbl hbA hP hK hD hS) rfl rfl hl.1 rfl (lv_room (Nat.le_of_ble_eq_true rfl)) dX0_steps_43 ⟨Nat.le_of_ble_eq_true rfl, Nat.le_of_ble_eq_true rfl⟩) (fun u qY H locs hp hP hD hS => ?_)
    obtain ⟨hl_, hp_, RY, wY, hY, hRY⟩ := hp
    rw [hlen] at hl_ hY
    have hX := wf_mono hX (fun j _ h8 => hp_ j (by omega))
    have hpre : ∀ j, j < ws.length → u[j]? = ws[j]? := fun j hj => (hp_ j (by omega)).trans (hpre j hj)
    have hlen : u.length = ws.length + 14 := by omega
    refine lv_astore (lv' := [(6, .ref qY), (5, .ref qX), (4, .int (nI 2)), (0, .ref b), (1, .int (nI n)), (2, .int bits), (3, .int (nI (wf_k bits)))]) hx hb dX0_steps_46 hl (by decide) rfl (fun ls hl => ?_)
    refine W.widen (k := 78) (n := 786) (Nat.le_of_ble_eq_true rfl) (Nat.le_of_ble_eq_true rfl) ?_
    have hx0 : ∀ j, j < n → RX 0 j = lw_T L xs 0 j := fun j hj => hRX 0 j (by decide) hj
    have hy0 : ∀ j, j < n → RY 0 j = lw_T L xs 0 j := fun j hj => hRY 0 j (by decide) hj
    refine lv_iload hx hb dX0_steps_48 (lv_at hl 2 rfl) ?_
    refine lv_if_ne (tgt := 62) hx hb dX0_steps_50 (by decide) (fun _ => ?_) (fun q_ => absurd q_ (by decide))
    refine lv_iload hx hb dX0_steps_62 (lv_at hl 2 rfl) ?_
    refine lv_iconst (v := nI 1) hx hb dX0_steps_64 (by decide) ?_
    refine lv_icmp_ne (tgt := 77) hx hb dX0_steps_65 (by decide) (fun _ => ?_) (fun q_ => absurd q_ (by decide))
    refine lv_iload hx hb dX0_steps_77 (lv_at hl 2 rfl) ?_
    refine lv_iconst (v := nI 2) hx hb dX0_steps_79 (by decide) ?_
    refine lv_icmp_ne (tgt := 93) hx hb dX0_steps_80 (by decide) (fun q_ => absurd (by decide) q_) (fun _ => ?_)
    refine lv_aload hx hb dX0_steps_83 (lv_at hl 1 rfl) ?_
    refine lv_iconst (v := 0) hx hb dX0_steps_85 (by decide) ?_
    refine lv_iload_n hx hb dX0_steps_86 rfl (lv_at hl 5 rfl) ?_
    refine wr_calli0 hD hS hA (va_runV (As := [.int 0, .int bits]) (rest := []) ⟨hx, hb, hml, hown, hts⟩ (f_up l D dI dF _ H.size _ _ _ _ _ hX hn1 hn2 0 0 (by decide) (by decide) bits) (cwV 2 hts (lw_V q55 q56 q57 q1 q58) rfl rfl rfl (by decide +kernel) ⟨Nat.le_of_ble_eq_true rfl, Nat.le_of_ble_eq_true rfl⟩) (wf_preV hX hP hK hD) rfl rfl hl.1 rfl (lv_room (Nat.le_of_ble_eq_true rfl)) dX0_steps_87 ⟨Nat.le_of_ble_eq_true rfl, Nat.le_of_ble_eq_true rfl⟩) (fun r_ u H locs hp hP hD hS => ?_)
    obtain ⟨hr_, hp⟩ := hp
    subst hr_
    have hY := wf_keep hp hY (by omega)
    have hpre : ∀ j, j < ws.length → u[j]? = ws[j]? := fun j hj => (hp.2.1 j (Or.inl (by omega))).trans (hpre j hj)
    have hlen : u.length = ws.length + 14 := hp.1.trans hlen
    have hX := hp.2.2
    obtain ⟨RX1, eRX1⟩ : ∃ z_, z_ = va_up RX 0 (wr_f (wn_uw (nI (wf_k bits)) 0 (RX 0)) (RX 0) n) := ⟨_, rfl⟩
    rw [← eRX1] at hX
    refine wr_topi (wn_ur (wn_pv 0 (lw_T L xs 0) n) (-(nI (wf_k bits)))) (by rw [lw_pv_congr hx0 0 n (Nat.le_refl n)]) ?_
    have fX : ∀ i, i < n → RX1 0 i = wn_uw (nI (wf_k bits)) 0 (lw_T L xs 0) i := fun i hi => by rw [eRX1]; simp only [va_up, if_pos]; rw [wr_fl _ _ hi]; exact lw_uw_congr hx0 _ _ hi
    refine lv_goto (tgt := 100) hx hb dX0_steps_90 (by decide) ?_
    refine lv_istore (lv' := [(7, .int (wn_ur (wn_pv 0 (lw_T L xs 0) n) (-(nI (wf_k bits))))), (6, .ref qY), (5, .ref qX), (4, .int (nI 2)), (0, .ref b), (1, .int (nI n)), (2, .int bits), (3, .int (nI (wf_k bits)))]) hx hb dX0_steps_100 hl (by decide) rfl (fun ls hl => ?_)
    refine lv_iconst (v := 1) hx hb dX0_steps_102 (by decide) ?_
    refine lv_istore (lv' := [(8, .int 1), (7, .int (wn_ur (wn_pv 0 (lw_T L xs 0) n) (-(nI (wf_k bits))))), (6, .ref qY), (5, .ref qX), (4, .int (nI 2)), (0, .ref b), (1, .int (nI n)), (2, .int bits), (3, .int (nI (wf_k bits)))]) hx hb dX0_steps_103 hl (by decide) rfl (fun ls hl => ?_)
    refine lv_iconst (v := nI 0) hx hb dX0_steps_105 (by decide) ?_
    refine lv_istore (lv' := [(9, .int (nI 0)), (8, .int 1), (7, .int (wn_ur (wn_pv 0 (lw_T L xs 0) n) (-(nI (wf_k bits))))), (6, .ref qY), (5, .ref qX), (4, .int (nI 2)), (0, .ref b), (1, .int (nI n)), (2, .int bits), (3, .int (nI (wf_k bits)))]) hx hb dX0_steps_106 hl (by decide) rfl (fun ls hl => ?_)
    have loop : (∀ (H : Heap) (locs : List Loc) (ls : Array Slot), va_P D vwCl u H → va_D A u → va_S A s.heap H locs → lv_has ls 12 [(9, .int (nI n)), (7, .int (wn_ur (wn_pv 0 (lw_T L xs 0) n) (-(nI (wf_k bits))))), (5, .ref qX), (6, .ref qY), (4, .int (nI 2)), (0, .ref b), (1, .int (nI n)), (2, .int bits), (3, .int (nI (wf_k bits)))] → W p l e (headSpec (ws_ yX0_steps cX0_steps 12 (some .boolean)) lw_rS).room s m (([.ref b] : List Value).toArray) below meth c H locs 78 786 (MQ below (va_Qi (fun (r : Int32) (_ : Unit) => r = 1) (fun _ t => wr_B D A ws t) A) (([.ref b] : List Value).toArray) s 130 1310 A) (F0 m 274 ls [])) → ∀ (k i : Nat) (H : Heap) (locs : List Loc) (ls : Array Slot), i + k = n → va_P D vwCl u H → va_D A u → va_S A s.heap H locs → lv_has ls 12 [(9, .int (nI i)), (7, .int (wn_ur (wn_pv 0 (lw_T L xs 0) n) (-(nI (wf_k bits))))), (5, .ref qX), (6, .ref qY), (4, .int (nI 2)), (0, .ref b), (1, .int (nI n)), (2, .int bits), (3, .int (nI (wf_k bits)))] → W p l e (headSpec (ws_ yX0_steps cX0_steps 12 (some .boolean)) lw_rS).room s m (([.ref b] : List Value).toArray) below meth c H locs 78 786 (MQ below (va_Qi (fun (r : Int32) (_ : Unit) => r = 1) (fun _ t => wr_B D A ws t) A) (([.ref b] : List Value).toArray) s 130 1310 A) (F0 m 108 ls []) := by
      intro kx k
      induction k with
      | zero =>
        intro i H locs ls hik hP hD hS hl
        have hin : i = n := by omega
        rw [hin] at hl
        refine lv_iload hx hb dX0_steps_108 (lv_at hl 0 rfl) ?_
        refine lv_iload_n hx hb dX0_steps_110 rfl (lv_at hl 6 rfl) ?_
        refine lv_icmp_ge (tgt := 274) hx hb dX0_steps_111 (by decide) (fun _ => ?_) (fun q_ => absurd (nI_le (Nat.le_refl n) hB) q_)
        exact kx H locs ls hP hD hS (lv_sub hl [0, 1, 2, 3, 4, 5, 6, 7, 8] rfl)
      | succ k ih =>
        intro i H locs ls hik hP hD hS hl
        have hi : i < n := by omega
        refine lv_iload hx hb dX0_steps_108 (lv_at hl 0 rfl) ?_
        refine lv_iload_n hx hb dX0_steps_110 rfl (lv_at hl 6 rfl) ?_
        refine lv_icmp_ge (tgt := 274) hx hb dX0_steps_111 (by decide) (fun q_ => absurd q_ (nI_ge hi hB)) (fun _ => ?_)
        refine lv_aload hx hb dX0_steps_114 (lv_at hl 3 rfl) ?_
        refine lv_iconst (v := 0) hx hb dX0_steps_116 (by decide) ?_
        refine lv_iload hx hb dX0_steps_117 (lv_at hl 0 rfl) ?_
        refine wr_calli0 hD hS hA (va_runV (As := [.int 0, .int (nI i)]) (rest := []) ⟨hx, hb, hml, hown, hts⟩ (f_wordN l D dI dF _ H.size _ _ _ _ _ hY hn1 hn2 _ 0 (by decide) (by decide) (i) (hi)) (cwV 2 hts (lw_V q3 q4 q5 q1 q6) rfl rfl rfl (by decide +kernel) ⟨Nat.le_of_ble_eq_true rfl, Nat.le_of_ble_eq_true rfl⟩) (wf_preV hY hP hK hD) rfl rfl hl.1 rfl (lv_room (Nat.le_of_ble_eq_true rfl)) dX0_steps_119 ⟨Nat.le_of_ble_eq_true rfl, Nat.le_of_ble_eq_true rfl⟩) (fun r_ u_ H locs hp hP hD hS => ?_)
        subst hp
        refine wr_topi (lw_T L xs 0 i) (hy0 i hi) ?_
        refine lv_istore (lv' := [(10, .int (lw_T L xs 0 i)), (9, .int (nI i)), (7, .int (wn_ur (wn_pv 0 (lw_T L xs 0) n) (-(nI (wf_k bits))))), (5, .ref qX), (6, .ref qY), (4, .int (nI 2)), (0, .ref b), (1, .int (nI n)), (2, .int bits), (3, .int (nI (wf_k bits)))]) hx hb dX0_steps_122 hl (by decide) rfl (fun ls hl => ?_)
        refine lv_iload hx hb dX0_steps_124 (lv_at hl 5 rfl) ?_
        refine lv_if_ne (tgt := 137) hx hb dX0_steps_126 (by decide) (fun _ => ?_) (fun q_ => absurd q_ (by decide))
        refine lv_iload hx hb dX0_steps_137 (lv_at hl 5 rfl) ?_
        refine lv_iconst (v := nI 1) hx hb dX0_steps_139 (by decide) ?_
        refine lv_icmp_ne (tgt := 151) hx hb dX0_steps_140 (by decide) (fun _ => ?_) (fun q_ => absurd q_ (by decide))
        refine lv_iload hx hb dX0_steps_151 (lv_at hl 5 rfl) ?_
        refine lv_iconst (v := nI 2) hx hb dX0_steps_153 (by decide) ?_
        refine lv_icmp_ne (tgt := 189) hx hb dX0_steps_154 (by decide) (fun q_ => absurd (by decide) q_) (fun _ => ?_)
        refine lv_iload hx hb dX0_steps_157 (lv_at hl 0 rfl) ?_
        refine lv_iload_n hx hb dX0_steps_159 rfl (lv_at hl 9 rfl) ?_
        refine lv_ishl hx hb dX0_steps_160 ?_
        refine wr_topi (wn_su (lw_T L xs 0 i) (nI (wf_k bits))) (rfl) ?_
        have c_ : (∀ (H : Heap) (locs : List Loc), va_P D vwCl u H → va_D A u → va_S A s.heap H locs → W p l e (headSpec (ws_ yX0_steps cX0_steps 12 (some .boolean)) lw_rS).room s m (([.ref b] : List Value).toArray) below meth c H locs 78 786 (MQ below (va_Qi (fun (r : Int32) (_ : Unit) => r = 1) (fun _ t => wr_B D A ws t) A) (([.ref b] : List Value).toArray) s 130 1310 A) (F0 m 185 ls [.int (wn_ur (wn_pv 0 (lw_T L xs 0) i) (-(nI (wf_k bits)))), .int (wn_su (lw_T L xs 0 i) (nI (wf_k bits)))])) → ∀ (H : Heap) (locs : List Loc), va_P D vwCl u H → va_D A u → va_S A s.heap H locs → W p l e (headSpec (ws_ yX0_steps cX0_steps 12 (some .boolean)) lw_rS).room s m (([.ref b] : List Value).toArray) below meth c H locs 78 786 (MQ below (va_Qi (fun (r : Int32) (_ : Unit) => r = 1) (fun _ t => wr_B D A ws t) A) (([.ref b] : List Value).toArray) s 130 1310 A) (F0 m 161 ls [.int (wn_su (lw_T L xs 0 i) (nI (wf_k bits)))]) := by
          intro kk H locs hP hD hS
          refine lv_iload hx hb dX0_steps_161 (lv_at hl 1 rfl) ?_
          rcases Nat.eq_zero_or_pos i with g | g
          · skip
            refine lv_if_le (tgt := 184) hx hb dX0_steps_163 (by decide) (fun _ => ?_) (fun q_ => absurd (show nI i ≤ 0 by rw [g]; decide) q_)
            refine lv_iconst (v := 0) hx hb dX0_steps_184 (by decide) ?_
            refine wr_topi (wn_ur (wn_pv 0 (lw_T L xs 0) i) (-(nI (wf_k bits)))) (by rw [g]; exact (lw_ur0 bits).symm) ?_
            exact kk H locs hP hD hS
          · skip
            refine lv_if_le (tgt := 184) hx hb dX0_steps_163 (by decide) (fun q_ => absurd q_ (nI_nle g (by omega))) (fun _ => ?_)
            refine lv_aload hx hb dX0_steps_166 (lv_at hl 4 rfl) ?_
            refine lv_iconst (v := 0) hx hb dX0_steps_168 (by decide) ?_
            refine lv_iload hx hb dX0_steps_169 (lv_at hl 1 rfl) ?_
            refine lv_iconst (v := nI 1) hx hb dX0_steps_171 (by decide) ?_
            refine lv_isub hx hb dX0_steps_172 ?_
            refine wr_topi (nI (i - 1)) (pk_sub g) ?_
            refine wr_calli0 hD hS hA (va_runV (As := [.int 0, .int (nI (i - 1))]) (rest := [.int (wn_su (lw_T L xs 0 i) (nI (wf_k bits)))]) ⟨hx, hb, hml, hown, hts⟩ (f_wordN l D dI dF _ H.size _ _ _ _ _ hY hn1 hn2 _ 0 (by decide) (by decide) (i - 1) (by omega)) (cwV 2 hts (lw_V q3 q4 q5 q1 q6) rfl rfl rfl (by decide +kernel) ⟨Nat.le_of_ble_eq_true rfl, Nat.le_of_ble_eq_true rfl⟩) (wf_preV hY hP hK hD) rfl rfl hl.1 rfl (lv_room (Nat.le_of_ble_eq_true rfl)) dX0_steps_173 ⟨Nat.le_of_ble_eq_true rfl, Nat.le_of_ble_eq_true rfl⟩) (fun r_ u_ H locs hp hP hD hS => ?_)
            subst hp
            refine wr_topi (lw_T L xs 0 (i - 1)) (hy0 _ (by omega)) ?_
            refine lv_bipush (v := nI 32) hx hb dX0_steps_176 (by decide) ?_
            refine lv_iload_n hx hb dX0_steps_178 rfl (lv_at hl 9 rfl) ?_
            refine lv_isub hx hb dX0_steps_179 ?_
            refine wr_topi (nI (32 - wf_k bits)) (pk_sub (by omega)) ?_
            refine lv_iushr (v := wn_ur (wn_pv 0 (lw_T L xs 0) i) (-(nI (wf_k bits)))) hx hb dX0_steps_180 (by rw [show wn_pv 0 (lw_T L xs 0) i = (lw_T L xs 0) (i - 1) from by obtain ⟨i0, hi0⟩ : ∃ i0, i = i0 + 1 := ⟨i - 1, by omega⟩; rw [hi0]; rfl]; exact lw_ur32 bits _) ?_
            refine lv_goto (tgt := 185) hx hb dX0_steps_181 (by decide) ?_
            exact kk H locs hP hD hS
        refine c_ (fun H locs hP hD hS => ?_) H locs hP hD hS
        refine lv_ior hx hb dX0_steps_185 ?_
        refine wr_topi (wn_uw (nI (wf_k bits)) 0 (lw_T L xs 0) i) (rfl) ?_
        refine lv_goto (tgt := 221) hx hb dX0_steps_186 (by decide) ?_
        refine lv_istore (lv' := [(11, .int (wn_uw (nI (wf_k bits)) 0 (lw_T L xs 0) i)), (10, .int (lw_T L xs 0 i)), (9, .int (nI i)), (7, .int (wn_ur (wn_pv 0 (lw_T L xs 0) n) (-(nI (wf_k bits))))), (5, .ref qX), (6, .ref qY), (4, .int (nI 2)), (0, .ref b), (1, .int (nI n)), (2, .int bits), (3, .int (nI (wf_k bits)))]) hx hb dX0_steps_221 hl (by decide) rfl (fun ls hl => ?_)
        refine lv_aload hx hb dX0_steps_223 (lv_at hl 4 rfl) ?_
        refine lv_iconst (v := 0) hx hb dX0_steps_225 (by decide) ?_
        refine lv_iload hx hb dX0_steps_226 (lv_at hl 2 rfl) ?_
        refine wr_calli0 hD hS hA (va_runV (As := [.int 0, .int (nI i)]) (rest := []) ⟨hx, hb, hml, hown, hts⟩ (f_wordN l D dI dF _ H.size _ _ _ _ _ hX hn1 hn2 _ 0 (by decide) (by decide) (i) (hi)) (cwV 2 hts (lw_V q3 q4 q5 q1 q6) rfl rfl rfl (by decide +kernel) ⟨Nat.le_of_ble_eq_true rfl, Nat.le_of_ble_eq_true rfl⟩) (wf_preV hX hP hK hD) rfl rfl hl.1 rfl (lv_room (Nat.le_of_ble_eq_true rfl)) dX0_steps_228 ⟨Nat.le_of_ble_eq_true rfl, Nat.le_of_ble_eq_true rfl⟩) (fun r_ u_ H locs hp hP hD hS => ?_)
        subst hp
        refine lv_iload hx hb dX0_steps_231 (lv_at hl 0 rfl) ?_
        refine lv_icmp_eq (tgt := 238) hx hb dX0_steps_233 (by decide) (fun _ => ?_) (fun q_ => absurd (fX i hi) q_)
        refine lv_iload hx hb dX0_steps_238 (lv_at hl 6 rfl) ?_
        refine lv_if_ne (tgt := 248) hx hb dX0_steps_240 (by decide) (fun _ => ?_) (fun q_ => absurd q_ (by decide))
        refine lv_iload hx hb dX0_steps_248 (lv_at hl 6 rfl) ?_
        refine lv_iconst (v := nI 1) hx hb dX0_steps_250 (by decide) ?_
        refine lv_icmp_ne (tgt := 265) hx hb dX0_steps_251 (by decide) (fun _ => ?_) (fun q_ => absurd q_ (by decide))
        refine lv_iconst (v := 0) hx hb dX0_steps_265 (by decide) ?_
        refine lv_istore (lv' := [(8, .int 0), (11, .int (wn_uw (nI (wf_k bits)) 0 (lw_T L xs 0) i)), (10, .int (lw_T L xs 0 i)), (9, .int (nI i)), (7, .int (wn_ur (wn_pv 0 (lw_T L xs 0) n) (-(nI (wf_k bits))))), (5, .ref qX), (6, .ref qY), (4, .int (nI 2)), (0, .ref b), (1, .int (nI n)), (2, .int bits), (3, .int (nI (wf_k bits)))]) hx hb dX0_steps_266 hl (by decide) rfl (fun ls hl => ?_)
        refine lv_iinc (v := nI (i + 1)) (lv' := [(9, .int (nI (i + 1))), (8, .int 0), (11, .int (wn_uw (nI (wf_k bits)) 0 (lw_T L xs 0) i)), (10, .int (lw_T L xs 0 i)), (7, .int (wn_ur (wn_pv 0 (lw_T L xs 0) n) (-(nI (wf_k bits))))), (5, .ref qX), (6, .ref qY), (4, .int (nI 2)), (0, .ref b), (1, .int (nI n)), (2, .int bits), (3, .int (nI (wf_k bits)))]) hx hb dX0_steps_268 hl (k := 3) rfl (wn_inc i) (by decide) rfl (fun ls hl => ?_)
        refine lv_goto (tgt := 108) hx hb dX0_steps_271 (by decide) ?_
        exact ih (i + 1) H locs ls (by omega) hP hD hS (lv_sub hl [0, 4, 5, 6, 7, 8, 9, 10, 11] rfl)
    refine loop ?_ n 0 H locs ls (by omega) hP hD hS (lv_sub hl [0, 2, 4, 3, 5, 6, 7, 8, 9] rfl)
    clear loop
    intro H locs ls hP hD hS hl
    refine lv_iload hx hb dX0_steps_274 (lv_at hl 1 rfl) ?_
    refine lv_iload hx hb dX0_steps_276 (lv_at hl 4 rfl) ?_
    refine lv_if_ne (tgt := 286) hx hb dX0_steps_278 (by decide) (fun _ => ?_) (fun q_ => absurd q_ (by decide))
    refine lv_iload hx hb dX0_steps_286 (lv_at hl 4 rfl) ?_
    refine lv_iconst (v := nI 1) hx hb dX0_steps_288 (by decide) ?_
    refine lv_icmp_ne (tgt := 298) hx hb dX0_steps_289 (by decide) (fun _ => ?_) (fun q_ => absurd q_ (by decide))
    refine lv_iload hx hb dX0_steps_298 (lv_at hl 4 rfl) ?_
    refine lv_iconst (v := nI 2) hx hb dX0_steps_300 (by decide) ?_
    refine lv_icmp_ne (tgt := 321) hx hb dX0_steps_301 (by decide) (fun q_ => absurd (by decide) q_) (fun _ => ?_)
    refine lv_aload hx hb dX0_steps_304 (lv_at hl 3 rfl) ?_
    refine lv_iconst (v := 0) hx hb dX0_steps_306 (by decide) ?_
    refine lv_iload_n hx hb dX0_steps_307 rfl (lv_at hl 6 rfl) ?_
    refine lv_iconst (v := nI 1) hx hb dX0_steps_308 (by decide) ?_
    refine lv_isub hx hb dX0_steps_309 ?_
    refine wr_topi (nI (n - 1)) (pk_sub hn1) ?_
    refine wr_calli0 hD hS hA (va_runV (As := [.int 0, .int (nI (n - 1))]) (rest := [.int (wn_ur (wn_pv 0 (lw_T L xs 0) n) (-(nI (wf_k bits))))]) ⟨hx, hb, hml, hown, hts⟩ (f_wordN l D dI dF _ H.size _ _ _ _ _ hY hn1 hn2 _ 0 (by decide) (by decide) (n - 1) (by omega)) (cwV 2 hts (lw_V q3 q4 q5 q1 q6) rfl rfl rfl (by decide +kernel) ⟨Nat.le_of_ble_eq_true rfl, Nat.le_of_ble_eq_true rfl⟩) (wf_preV hY hP hK hD) rfl rfl hl.1 rfl (lv_room (Nat.le_of_ble_eq_true rfl)) dX0_steps_310 ⟨Nat.le_of_ble_eq_true rfl, Nat.le_of_ble_eq_true rfl⟩) (fun r_ u_ H locs hp hP hD hS => ?_)
    subst hp
    refine wr_topi (lw_T L xs 0 (n - 1)) (hy0 _ (by omega)) ?_
    refine lv_bipush (v := nI 32) hx hb dX0_steps_313 (by decide) ?_
    refine lv_iload_n hx hb dX0_steps_315 rfl (lv_at hl 8 rfl) ?_
    refine lv_isub hx hb dX0_steps_316 ?_
    refine wr_topi (nI (32 - wf_k bits)) (pk_sub (by omega)) ?_
    refine lv_iushr (v := wn_ur (wn_pv 0 (lw_T L xs 0) n) (-(nI (wf_k bits)))) hx hb dX0_steps_317 (by rw [show wn_pv 0 (lw_T L xs 0) n = (lw_T L xs 0) (n - 1) from by obtain ⟨i0, hi0⟩ : ∃ i0, n = i0 + 1 := ⟨n - 1, by omega⟩; rw [hi0]; rfl]; exact lw_ur32 bits _) ?_
    refine lv_goto (tgt := 333) hx hb dX0_steps_318 (by decide) ?_
    refine lv_icmp_eq (tgt := 338) hx hb dX0_steps_333 (by decide) (fun _ => ?_) (fun q_ => absurd rfl q_)
    refine lv_iinc (v := nI 3) (lv' := [(4, .int (nI 3)), (9, .int (nI n)), (7, .int (wn_ur (wn_pv 0 (lw_T L xs 0) n) (-(nI (wf_k bits))))), (5, .ref qX), (6, .ref qY), (0, .ref b), (1, .int (nI n)), (2, .int bits), (3, .int (nI (wf_k bits)))]) hx hb dX0_steps_338 hl (k := 4) rfl (wn_inc 2) (by decide) rfl (fun ls hl => ?_)
    refine lv_goto (tgt := 30) hx hb dX0_steps_341 (by decide) ?_
    exact kk H locs ls (lw_preP hpre hP) (lw_preD hpre hD) hS (lv_sub hl [0, 5, 6, 7, 8] rfl)
  have turn3 : ∀ (H : Heap) (locs : List Loc) (ls : Array Slot), va_P D vwCl ws H → va_D A ws → va_S A s.heap H locs → lv_has ls 12 [(4, .int (nI 3)), (0, .ref b), (1, .int (nI n)), (2, .int bits), (3, .int (nI (wf_k bits)))] → (∀ (H : Heap) (locs : List Loc) (ls : Array Slot), va_P D vwCl ws H → va_D A ws → va_S A s.heap H locs → lv_has ls 12 [(4, .int (nI 4)), (0, .ref b), (1, .int (nI n)), (2, .int bits), (3, .int (nI (wf_k bits)))] → W p l e (headSpec (ws_ yX0_steps cX0_steps 12 (some .boolean)) lw_rS).room s m (([.ref b] : List Value).toArray) below meth c H locs 104 1048 (MQ below (va_Qi (fun (r : Int32) (_ : Unit) => r = 1) (fun _ t => wr_B D A ws t) A) (([.ref b] : List Value).toArray) s 130 1310 A) (F0 m 30 ls [])) → W p l e (headSpec (ws_ yX0_steps cX0_steps 12 (some .boolean)) lw_rS).room s m (([.ref b] : List Value).toArray) below meth c H locs 78 786 (MQ below (va_Qi (fun (r : Int32) (_ : Unit) => r = 1) (fun _ t => wr_B D A ws t) A) (([.ref b] : List Value).toArray) s 130 1310 A) (F0 m 30 ls []) := by
    intro H locs ls hP hD hS hl kk
    refine lv_iload hx hb dX0_steps_30 (lv_at hl 0 rfl) ?_
    refine lv_iconst (v := nI 4) hx hb dX0_steps_32 (by decide) ?_
    refine lv_icmp_ge (tgt := 344) hx hb dX0_steps_33 (by decide) (fun q_ => absurd q_ (by decide)) (fun _ => ?_)
    refine lv_aload_n hx hb dX0_steps_36 rfl (lv_at hl 1 rfl) ?_
    refine wr_callr hD hS hA (va_runS (As := [.ref b]) (rest := []) ⟨hx, hb, hml, hown, hts⟩ (c_three l D dI dF _ H.size b L xs hL n hn) (va_cwS 1 hts (lw_S q99 q100 q0 q101) rfl rfl rfl (by decide +kernel) ⟨Nat.le_of_ble_eq_true rfl, Nat.le_of_ble_eq_true rfl⟩) (wr_preX hX0 hbl hbA hP hK hD hS) rfl rfl hl.1 rfl (lv_room (Nat.le_of_ble_eq_true rfl)) dX0_steps_37 ⟨Nat.le_of_ble_eq_true rfl, Nat.le_of_ble_eq_true rfl⟩) (fun u qX H locs hp hP hD hS => ?_)
    obtain ⟨hl_, hp_, RX, wX, hX, hRX⟩ := hp
    have hpre : ∀ j, j < ws.length → u[j]? = ws[j]? := hp_
    have hlen : u.length = ws.length + 7 := hl_
    refine lv_astore (lv' := [(5, .ref qX), (4, .int (nI 3)), (0, .ref b), (1, .int (nI n)), (2, .int bits), (3, .int (nI (wf_k bits)))]) hx hb dX0_steps_40 hl (by decide) rfl (fun ls hl => ?_)
    refine lv_aload_n hx hb dX0_steps_42 rfl (lv_at hl 2 rfl) ?_
    refine wr_callr hD hS hA (va_runS (As := [.ref b]) (rest := []) ⟨hx, hb, hml, hown, hts⟩ (c_three l D dI dF _ H.size b L xs hL n hn) (va_cwS 1 hts (lw_S q99 q100 q0 q101) rfl rfl rfl (by decide +kernel) ⟨Nat.le_of_ble_eq_true rfl, Nat.le_of_ble_eq_true rfl⟩) (wr_preX hX0 hbl hbA hP hK hD hS) rfl rfl hl.1 rfl (lv_room (Nat.le_of_ble_eq_true rfl)) dX0_steps_43 ⟨Nat.le_of_ble_eq_true rfl, Nat.le_of_ble_eq_true rfl⟩) (fun u qY H locs hp hP hD hS => ?_)
    obtain ⟨hl_, hp_, RY, wY, hY, hRY⟩ := hp
    rw [hlen] at hl_ hY
    have hX := wf_mono hX (fun j _ h8 => hp_ j (by omega))
    have hpre : ∀ j, j < ws.length → u[j]? = ws[j]? := fun j hj => (hp_ j (by omega)).trans (hpre j hj)
    have hlen : u.length = ws.length + 14 := by omega
    refine lv_astore (lv' := [(6, .ref qY), (5, .ref qX), (4, .int (nI 3)), (0, .ref b), (1, .int (nI n)), (2, .int bits), (3, .int (nI (wf_k bits)))]) hx hb dX0_steps_46 hl (by decide) rfl (fun ls hl => ?_)
    refine W.widen (k := 104) (n := 1048) (Nat.le_of_ble_eq_true rfl) (Nat.le_of_ble_eq_true rfl) ?_
    have hx0 : ∀ j, j < n → RX 0 j = lw_T L xs 0 j := fun j hj => hRX 0 j (by decide) hj
    have hy0 : ∀ j, j < n → RY 0 j = lw_T L xs 0 j := fun j hj => hRY 0 j (by decide) hj
    refine lv_iload hx hb dX0_steps_48 (lv_at hl 2 rfl) ?_
    refine lv_if_ne (tgt := 62) hx hb dX0_steps_50 (by decide) (fun _ => ?_) (fun q_ => absurd q_ (by decide))
    refine lv_iload hx hb dX0_steps_62 (lv_at hl 2 rfl) ?_
    refine lv_iconst (v := nI 1) hx hb dX0_steps_64 (by decide) ?_
    refine lv_icmp_ne (tgt := 77) hx hb dX0_steps_65 (by decide) (fun _ => ?_) (fun q_ => absurd q_ (by decide))
    refine lv_iload hx hb dX0_steps_77 (lv_at hl 2 rfl) ?_
    refine lv_iconst (v := nI 2) hx hb dX0_steps_79 (by decide) ?_
    refine lv_icmp_ne (tgt := 93) hx hb dX0_steps_80 (by decide) (fun _ => ?_) (fun q_ => absurd q_ (by decide))
    refine lv_aload hx hb dX0_steps_93 (lv_at hl 1 rfl) ?_
    refine lv_iconst (v := 0) hx hb dX0_steps_95 (by decide) ?_
    refine lv_iload_n hx hb dX0_steps_96 rfl (lv_at hl 5 rfl) ?_
    refine wr_calli0 hD hS hA (va_runV (As := [.int 0, .int bits]) (rest := []) ⟨hx, hb, hml, hown, hts⟩ (f_down l D dI dF _ H.size _ _ _ _ _ hX hn1 hn2 0 0 (by decide) (by decide) bits) (cwV 2 hts (lw_V q63 q64 q65 q1 q66) rfl rfl rfl (by decide +kernel) ⟨Nat.le_of_ble_eq_true rfl, Nat.le_of_ble_eq_true rfl⟩) (wf_preV hX hP hK hD) rfl rfl hl.1 rfl (lv_room (Nat.le_of_ble_eq_true rfl)) dX0_steps_97 ⟨Nat.le_of_ble_eq_true rfl, Nat.le_of_ble_eq_true rfl⟩) (fun r_ u H locs hp hP hD hS => ?_)
    obtain ⟨hr_, hp⟩ := hp
    subst hr_
    have hY := wf_keep hp hY (by omega)
    have hpre : ∀ j, j < ws.length → u[j]? = ws[j]? := fun j hj => (hp.2.1 j (Or.inl (by omega))).trans (hpre j hj)
    have hlen : u.length = ws.length + 14 := hp.1.trans hlen
    have hX := hp.2.2
    obtain ⟨RX1, eRX1⟩ : ∃ z_, z_ = va_up RX 0 (wr_f (wn_ow (nI (wf_k bits)) 0 (RX 0) n) (RX 0) n) := ⟨_, rfl⟩
    rw [← eRX1] at hX
    refine wr_topi (wn_su (wn_nx n 0 (lw_T L xs 0) 0) (-(nI (wf_k bits)))) (by rw [lw_nx_congr hx0 0 0]) ?_
    have fX : ∀ i, i < n → RX1 0 i = wn_ow (nI (wf_k bits)) 0 (lw_T L xs 0) n i := fun i hi => by rw [eRX1]; simp only [va_up, if_pos]; rw [wr_fl _ _ hi]; exact lw_ow_congr hx0 _ _ hi
    refine lv_istore (lv' := [(7, .int (wn_su (wn_nx n 0 (lw_T L xs 0) 0) (-(nI (wf_k bits))))), (6, .ref qY), (5, .ref qX), (4, .int (nI 3)), (0, .ref b), (1, .int (nI n)), (2, .int bits), (3, .int (nI (wf_k bits)))]) hx hb dX0_steps_100 hl (by decide) rfl (fun ls hl => ?_)
    refine lv_iconst (v := 1) hx hb dX0_steps_102 (by decide) ?_
    refine lv_istore (lv' := [(8, .int 1), (7, .int (wn_su (wn_nx n 0 (lw_T L xs 0) 0) (-(nI (wf_k bits))))), (6, .ref qY), (5, .ref qX), (4, .int (nI 3)), (0, .ref b), (1, .int (nI n)), (2, .int bits), (3, .int (nI (wf_k bits)))]) hx hb dX0_steps_103 hl (by decide) rfl (fun ls hl => ?_)
    refine lv_iconst (v := nI 0) hx hb dX0_steps_105 (by decide) ?_
    refine lv_istore (lv' := [(9, .int (nI 0)), (8, .int 1), (7, .int (wn_su (wn_nx n 0 (lw_T L xs 0) 0) (-(nI (wf_k bits))))), (6, .ref qY), (5, .ref qX), (4, .int (nI 3)), (0, .ref b), (1, .int (nI n)), (2, .int bits), (3, .int (nI (wf_k bits)))]) hx hb dX0_steps_106 hl (by decide) rfl (fun ls hl => ?_)
    have loop : (∀ (H : Heap) (locs : List Loc) (ls : Array Slot), va_P D vwCl u H → va_D A u → va_S A s.heap H locs → lv_has ls 12 [(9, .int (nI n)), (7, .int (wn_su (wn_nx n 0 (lw_T L xs 0) 0) (-(nI (wf_k bits))))), (5, .ref qX), (6, .ref qY), (4, .int (nI 3)), (0, .ref b), (1, .int (nI n)), (2, .int bits), (3, .int (nI (wf_k bits)))] → W p l e (headSpec (ws_ yX0_steps cX0_steps 12 (some .boolean)) lw_rS).room s m (([.ref b] : List Value).toArray) below meth c H locs 104 1048 (MQ below (va_Qi (fun (r : Int32) (_ : Unit) => r = 1) (fun _ t => wr_B D A ws t) A) (([.ref b] : List Value).toArray) s 130 1310 A) (F0 m 274 ls [])) → ∀ (k i : Nat) (H : Heap) (locs : List Loc) (ls : Array Slot), i + k = n → va_P D vwCl u H → va_D A u → va_S A s.heap H locs → lv_has ls 12 [(9, .int (nI i)), (7, .int (wn_su (wn_nx n 0 (lw_T L xs 0) 0) (-(nI (wf_k bits))))), (5, .ref qX), (6, .ref qY), (4, .int (nI 3)), (0, .ref b), (1, .int (nI n)), (2, .int bits), (3, .int (nI (wf_k bits)))] → W p l e (headSpec (ws_ yX0_steps cX0_steps 12 (some .boolean)) lw_rS).room s m (([.ref b] : List Value).toArray) below meth c H locs 104 1048 (MQ below (va_Qi (fun (r : Int32) (_ : Unit) => r = 1) (fun _ t => wr_B D A ws t) A) (([.ref b] : List Value).toArray) s 130 1310 A) (F0 m 108 ls []) := by
      intro kx k
      induction k with
      | zero =>
        intro i H locs ls hik hP hD hS hl
        have hin : i = n := by omega
        rw [hin] at hl
        refine lv_iload hx hb dX0_steps_108 (lv_at hl 0 rfl) ?_
        refine lv_iload_n hx hb dX0_steps_110 rfl (lv_at hl 6 rfl) ?_
        refine lv_icmp_ge (tgt := 274) hx hb dX0_steps_111 (by decide) (fun _ => ?_) (fun q_ => absurd (nI_le (Nat.le_refl n) hB) q_)
        exact kx H locs ls hP hD hS (lv_sub hl [0, 1, 2, 3, 4, 5, 6, 7, 8] rfl)
      | succ k ih =>
        intro i H locs ls hik hP hD hS hl
        have hi : i < n := by omega
        refine lv_iload hx hb dX0_steps_108 (lv_at hl 0 rfl) ?_
        refine lv_iload_n hx hb dX0_steps_110 rfl (lv_at hl 6 rfl) ?_
        refine lv_icmp_ge (tgt := 274) hx hb dX0_steps_111 (by decide) (fun q_ => absurd q_ (nI_ge hi hB)) (fun _ => ?_)
        refine lv_aload hx hb dX0_steps_114 (lv_at hl 3 rfl) ?_
        refine lv_iconst (v := 0) hx hb dX0_steps_116 (by decide) ?_
        refine lv_iload hx hb dX0_steps_117 (lv_at hl 0 rfl) ?_
        refine wr_calli0 hD hS hA (va_runV (As := [.int 0, .int (nI i)]) (rest := []) ⟨hx, hb, hml, hown, hts⟩ (f_wordN l D dI dF _ H.size _ _ _ _ _ hY hn1 hn2 _ 0 (by decide) (by decide) (i) (hi)) (cwV 2 hts (lw_V q3 q4 q5 q1 q6) rfl rfl rfl (by decide +kernel) ⟨Nat.le_of_ble_eq_true rfl, Nat.le_of_ble_eq_true rfl⟩) (wf_preV hY hP hK hD) rfl rfl hl.1 rfl (lv_room (Nat.le_of_ble_eq_true rfl)) dX0_steps_119 ⟨Nat.le_of_ble_eq_true rfl, Nat.le_of_ble_eq_true rfl⟩) (fun r_ u_ H locs hp hP hD hS => ?_)
        subst hp
        refine wr_topi (lw_T L xs 0 i) (hy0 i hi) ?_
        refine lv_istore (lv' := [(10, .int (lw_T L xs 0 i)), (9, .int (nI i)), (7, .int (wn_su (wn_nx n 0 (lw_T L xs 0) 0) (-(nI (wf_k bits))))), (5, .ref qX), (6, .ref qY), (4, .int (nI 3)), (0, .ref b), (1, .int (nI n)), (2, .int bits), (3, .int (nI (wf_k bits)))]) hx hb dX0_steps_122 hl (by decide) rfl (fun ls hl => ?_)
        refine lv_iload hx hb dX0_steps_124 (lv_at hl 5 rfl) ?_
        refine lv_if_ne (tgt := 137) hx hb dX0_steps_126 (by decide) (fun _ => ?_) (fun q_ => absurd q_ (by decide))
        refine lv_iload hx hb dX0_steps_137 (lv_at hl 5 rfl) ?_
        refine lv_iconst (v := nI 1) hx hb dX0_steps_139 (by decide) ?_
        refine lv_icmp_ne (tgt := 151) hx hb dX0_steps_140 (by decide) (fun _ => ?_) (fun q_ => absurd q_ (by decide))
        refine lv_iload hx hb dX0_steps_151 (lv_at hl 5 rfl) ?_
        refine lv_iconst (v := nI 2) hx hb dX0_steps_153 (by decide) ?_
        refine lv_icmp_ne (tgt := 189) hx hb dX0_steps_154 (by decide) (fun _ => ?_) (fun q_ => absurd q_ (by decide))
        refine lv_iload hx hb dX0_steps_189 (lv_at hl 0 rfl) ?_
        refine lv_iload_n hx hb dX0_steps_191 rfl (lv_at hl 9 rfl) ?_
        refine lv_iushr (v := wn_ur (lw_T L xs 0 i) (nI (wf_k bits))) hx hb dX0_steps_192 (rfl) ?_
        have c_ : (∀ (H : Heap) (locs : List Loc), va_P D vwCl u H → va_D A u → va_S A s.heap H locs → W p l e (headSpec (ws_ yX0_steps cX0_steps 12 (some .boolean)) lw_rS).room s m (([.ref b] : List Value).toArray) below meth c H locs 104 1048 (MQ below (va_Qi (fun (r : Int32) (_ : Unit) => r = 1) (fun _ t => wr_B D A ws t) A) (([.ref b] : List Value).toArray) s 130 1310 A) (F0 m 220 ls [.int (wn_su (wn_nx n 0 (lw_T L xs 0) (i + 1)) (-(nI (wf_k bits)))), .int (wn_ur (lw_T L xs 0 i) (nI (wf_k bits)))])) → ∀ (H : Heap) (locs : List Loc), va_P D vwCl u H → va_D A u → va_S A s.heap H locs → W p l e (headSpec (ws_ yX0_steps cX0_steps 12 (some .boolean)) lw_rS).room s m (([.ref b] : List Value).toArray) below meth c H locs 104 1048 (MQ below (va_Qi (fun (r : Int32) (_ : Unit) => r = 1) (fun _ t => wr_B D A ws t) A) (([.ref b] : List Value).toArray) s 130 1310 A) (F0 m 193 ls [.int (wn_ur (lw_T L xs 0 i) (nI (wf_k bits)))]) := by
          intro kk H locs hP hD hS
          refine lv_iload hx hb dX0_steps_193 (lv_at hl 1 rfl) ?_
          refine lv_iconst (v := nI 1) hx hb dX0_steps_195 (by decide) ?_
          refine lv_iadd hx hb dX0_steps_196 ?_
          refine wr_topi (nI (i + 1)) (nI_add _ _) ?_
          refine lv_iload_n hx hb dX0_steps_197 rfl (lv_at hl 7 rfl) ?_
          rcases Nat.lt_or_ge (i + 1) n with g | g
          · skip
            refine lv_icmp_ge (tgt := 219) hx hb dX0_steps_198 (by decide) (fun q_ => absurd q_ (nI_ge g hB)) (fun _ => ?_)
            refine lv_aload hx hb dX0_steps_201 (lv_at hl 4 rfl) ?_
            refine lv_iconst (v := 0) hx hb dX0_steps_203 (by decide) ?_
            refine lv_iload hx hb dX0_steps_204 (lv_at hl 1 rfl) ?_
            refine lv_iconst (v := nI 1) hx hb dX0_steps_206 (by decide) ?_
            refine lv_iadd hx hb dX0_steps_207 ?_
            refine wr_topi (nI (i + 1)) (nI_add _ _) ?_
            refine wr_calli0 hD hS hA (va_runV (As := [.int 0, .int (nI (i + 1))]) (rest := [.int (wn_ur (lw_T L xs 0 i) (nI (wf_k bits)))]) ⟨hx, hb, hml, hown, hts⟩ (f_wordN l D dI dF _ H.size _ _ _ _ _ hY hn1 hn2 _ 0 (by decide) (by decide) (i + 1) (g)) (cwV 2 hts (lw_V q3 q4 q5 q1 q6) rfl rfl rfl (by decide +kernel) ⟨Nat.le_of_ble_eq_true rfl, Nat.le_of_ble_eq_true rfl⟩) (wf_preV hY hP hK hD) rfl rfl hl.1 rfl (lv_room (Nat.le_of_ble_eq_true rfl)) dX0_steps_208 ⟨Nat.le_of_ble_eq_true rfl, Nat.le_of_ble_eq_true rfl⟩) (fun r_ u_ H locs hp hP hD hS => ?_)
            subst hp
            refine wr_topi (lw_T L xs 0 (i + 1)) (hy0 _ g) ?_
            refine lv_bipush (v := nI 32) hx hb dX0_steps_211 (by decide) ?_
            refine lv_iload_n hx hb dX0_steps_213 rfl (lv_at hl 9 rfl) ?_
            refine lv_isub hx hb dX0_steps_214 ?_
            refine wr_topi (nI (32 - wf_k bits)) (pk_sub (by omega)) ?_
            refine lv_ishl hx hb dX0_steps_215 ?_
            refine wr_topi (wn_su (wn_nx n 0 (lw_T L xs 0) (i + 1)) (-(nI (wf_k bits)))) ((lw_su32 bits _).trans (by rw [show wn_nx n 0 (lw_T L xs 0) (i + 1) = (lw_T L xs 0) (i + 1) from if_pos g])) ?_
            refine lv_goto (tgt := 220) hx hb dX0_steps_216 (by decide) ?_
            exact kk H locs hP hD hS
          · skip
            refine lv_icmp_ge (tgt := 219) hx hb dX0_steps_198 (by decide) (fun _ => ?_) (fun q_ => absurd (nI_le g (by omega)) q_)
            refine lv_iconst (v := 0) hx hb dX0_steps_219 (by decide) ?_
            refine wr_topi (wn_su (wn_nx n 0 (lw_T L xs 0) (i + 1)) (-(nI (wf_k bits)))) (by rw [show wn_nx n 0 (lw_T L xs 0) (i + 1) = 0 from if_neg (Nat.not_lt.mpr g)]; exact (lw_su0 bits).symm) ?_
            exact kk H locs hP hD hS
        refine c_ (fun H locs hP hD hS => ?_) H locs hP hD hS
        refine lv_ior hx hb dX0_steps_220 ?_
        refine wr_topi (wn_ow (nI (wf_k bits)) 0 (lw_T L xs 0) n i) (rfl) ?_
        refine lv_istore (lv' := [(11, .int (wn_ow (nI (wf_k bits)) 0 (lw_T L xs 0) n i)), (10, .int (lw_T L xs 0 i)), (9, .int (nI i)), (7, .int (wn_su (wn_nx n 0 (lw_T L xs 0) 0) (-(nI (wf_k bits))))), (5, .ref qX), (6, .ref qY), (4, .int (nI 3)), (0, .ref b), (1, .int (nI n)), (2, .int bits), (3, .int (nI (wf_k bits)))]) hx hb dX0_steps_221 hl (by decide) rfl (fun ls hl => ?_)
        refine lv_aload hx hb dX0_steps_223 (lv_at hl 4 rfl) ?_
        refine lv_iconst (v := 0) hx hb dX0_steps_225 (by decide) ?_
        refine lv_iload hx hb dX0_steps_226 (lv_at hl 2 rfl) ?_
        refine wr_calli0 hD hS hA (va_runV (As := [.int 0, .int (nI i)]) (rest := []) ⟨hx, hb, hml, hown, hts⟩ (f_wordN l D dI dF _ H.size _ _ _ _ _ hX hn1 hn2 _ 0 (by decide) (by decide) (i) (hi)) (cwV 2 hts (lw_V q3 q4 q5 q1 q6) rfl rfl rfl (by decide +kernel) ⟨Nat.le_of_ble_eq_true rfl, Nat.le_of_ble_eq_true rfl⟩) (wf_preV hX hP hK hD) rfl rfl hl.1 rfl (lv_room (Nat.le_of_ble_eq_true rfl)) dX0_steps_228 ⟨Nat.le_of_ble_eq_true rfl, Nat.le_of_ble_eq_true rfl⟩) (fun r_ u_ H locs hp hP hD hS => ?_)
        subst hp
        refine lv_iload hx hb dX0_steps_231 (lv_at hl 0 rfl) ?_
        refine lv_icmp_eq (tgt := 238) hx hb dX0_steps_233 (by decide) (fun _ => ?_) (fun q_ => absurd (fX i hi) q_)
        refine lv_iload hx hb dX0_steps_238 (lv_at hl 6 rfl) ?_
        refine lv_if_ne (tgt := 248) hx hb dX0_steps_240 (by decide) (fun _ => ?_) (fun q_ => absurd q_ (by decide))
        refine lv_iload hx hb dX0_steps_248 (lv_at hl 6 rfl) ?_
        refine lv_iconst (v := nI 1) hx hb dX0_steps_250 (by decide) ?_
        refine lv_icmp_ne (tgt := 265) hx hb dX0_steps_251 (by decide) (fun _ => ?_) (fun q_ => absurd q_ (by decide))
        refine lv_iconst (v := 0) hx hb dX0_steps_265 (by decide) ?_
        refine lv_istore (lv' := [(8, .int 0), (11, .int (wn_ow (nI (wf_k bits)) 0 (lw_T L xs 0) n i)), (10, .int (lw_T L xs 0 i)), (9, .int (nI i)), (7, .int (wn_su (wn_nx n 0 (lw_T L xs 0) 0) (-(nI (wf_k bits))))), (5, .ref qX), (6, .ref qY), (4, .int (nI 3)), (0, .ref b), (1, .int (nI n)), (2, .int bits), (3, .int (nI (wf_k bits)))]) hx hb dX0_steps_266 hl (by decide) rfl (fun ls hl => ?_)
        refine lv_iinc (v := nI (i + 1)) (lv' := [(9, .int (nI (i + 1))), (8, .int 0), (11, .int (wn_ow (nI (wf_k bits)) 0 (lw_T L xs 0) n i)), (10, .int (lw_T L xs 0 i)), (7, .int (wn_su (wn_nx n 0 (lw_T L xs 0) 0) (-(nI (wf_k bits))))), (5, .ref qX), (6, .ref qY), (4, .int (nI 3)), (0, .ref b), (1, .int (nI n)), (2, .int bits), (3, .int (nI (wf_k bits)))]) hx hb dX0_steps_268 hl (k := 3) rfl (wn_inc i) (by decide) rfl (fun ls hl => ?_)
        refine lv_goto (tgt := 108) hx hb dX0_steps_271 (by decide) ?_
        exact ih (i + 1) H locs ls (by omega) hP hD hS (lv_sub hl [0, 4, 5, 6, 7, 8, 9, 10, 11] rfl)
    refine loop ?_ n 0 H locs ls (by omega) hP hD hS (lv_sub hl [0, 2, 4, 3, 5, 6, 7, 8, 9] rfl)
    clear loop
    intro H locs ls hP hD hS hl
    refine lv_iload hx hb dX0_steps_274 (lv_at hl 1 rfl) ?_
    refine lv_iload hx hb dX0_steps_276 (lv_at hl 4 rfl) ?_
    refine lv_if_ne (tgt := 286) hx hb dX0_steps_278 (by decide) (fun _ => ?_) (fun q_ => absurd q_ (by decide))
    refine lv_iload hx hb dX0_steps_286 (lv_at hl 4 rfl) ?_
    refine lv_iconst (v := nI 1) hx hb dX0_steps_288 (by decide) ?_
    refine lv_icmp_ne (tgt := 298) hx hb dX0_steps_289 (by decide) (fun _ => ?_) (fun q_ => absurd q_ (by decide))
    refine lv_iload hx hb dX0_steps_298 (lv_at hl 4 rfl) ?_
    refine lv_iconst (v := nI 2) hx hb dX0_steps_300 (by decide) ?_
    refine lv_icmp_ne (tgt := 321) hx hb dX0_steps_301 (by decide) (fun _ => ?_) (fun q_ => absurd q_ (by decide))
    refine lv_aload hx hb dX0_steps_321 (lv_at hl 3 rfl) ?_
    refine lv_iconst (v := 0) hx hb dX0_steps_323 (by decide) ?_
    refine lv_iconst (v := nI 0) hx hb dX0_steps_324 (by decide) ?_
    refine wr_calli0 hD hS hA (va_runV (As := [.int 0, .int (nI 0)]) (rest := [.int (wn_su (wn_nx n 0 (lw_T L xs 0) 0) (-(nI (wf_k bits))))]) ⟨hx, hb, hml, hown, hts⟩ (f_wordN l D dI dF _ H.size _ _ _ _ _ hY hn1 hn2 _ 0 (by decide) (by decide) (0) (by omega)) (cwV 2 hts (lw_V q3 q4 q5 q1 q6) rfl rfl rfl (by decide +kernel) ⟨Nat.le_of_ble_eq_true rfl, Nat.le_of_ble_eq_true rfl⟩) (wf_preV hY hP hK hD) rfl rfl hl.1 rfl (lv_room (Nat.le_of_ble_eq_true rfl)) dX0_steps_325 ⟨Nat.le_of_ble_eq_true rfl, Nat.le_of_ble_eq_true rfl⟩) (fun r_ u_ H locs hp hP hD hS => ?_)
    subst hp
    refine wr_topi (lw_T L xs 0 0) (hy0 _ (by omega)) ?_
    refine lv_bipush (v := nI 32) hx hb dX0_steps_328 (by decide) ?_
    refine lv_iload_n hx hb dX0_steps_330 rfl (lv_at hl 8 rfl) ?_
    refine lv_isub hx hb dX0_steps_331 ?_
    refine wr_topi (nI (32 - wf_k bits)) (pk_sub (by omega)) ?_
    refine lv_ishl hx hb dX0_steps_332 ?_
    refine wr_topi (wn_su (wn_nx n 0 (lw_T L xs 0) 0) (-(nI (wf_k bits)))) ((lw_su32 bits _).trans (by rw [show wn_nx n 0 (lw_T L xs 0) 0 = (lw_T L xs 0) 0 from if_pos (by omega)])) ?_
    refine lv_icmp_eq (tgt := 338) hx hb dX0_steps_333 (by decide) (fun _ => ?_) (fun q_ => absurd rfl q_)
    refine lv_iinc (v := nI 4) (lv' := [(4, .int (nI 4)), (9, .int (nI n)), (7, .int (wn_su (wn_nx n 0 (lw_T L xs 0) 0) (-(nI (wf_k bits))))), (5, .ref qX), (6, .ref qY), (0, .ref b), (1, .int (nI n)), (2, .int bits), (3, .int (nI (wf_k bits)))]) hx hb dX0_steps_338 hl (k := 4) rfl (wn_inc 3) (by decide) rfl (fun ls hl => ?_)
    refine lv_goto (tgt := 30) hx hb dX0_steps_341 (by decide) ?_
    exact kk H locs ls (lw_preP hpre hP) (lw_preD hpre hD) hS (lv_sub hl [0, 5, 6, 7, 8] rfl)
  refine turn0 H locs ls hP hD hS (lv_sub hl [0, 4, 3, 2, 1] rfl) ?_
  clear turn0
  intro H locs ls hP hD hS hl
  refine turn1 H locs ls hP hD hS hl ?_
  clear turn1
  intro H locs ls hP hD hS hl
  refine turn2 H locs ls hP hD hS hl ?_
  clear turn2
  intro H locs ls hP hD hS hl
  refine turn3 H locs ls hP hD hS hl ?_
  clear turn3
  intro H locs ls hP hD hS hl
  refine lv_iload hx hb dX0_steps_30 (lv_at hl 0 rfl) ?_
  refine lv_iconst (v := nI 4) hx hb dX0_steps_32 (by decide) ?_
  refine lv_icmp_ge (tgt := 344) hx hb dX0_steps_33 (by decide) (fun _ => ?_) (fun q_ => absurd (by decide) q_)
  refine va_new (ci := 0) (fs := [.int 0, .null, .null]) (C := RX1) (T := TX1) (N := 3) hx hb hts in_X1 tyX1 tyX1_ok hown (hts _ q102) (hts _ q103) (hts _ q1) hK.1 hP hD hS hA rfl (fun j hj => by rcases (show j = 0 ∨ j = 1 ∨ j = 2 by omega) with rfl | rfl | rfl <;> rfl) (Nat.le_of_ble_eq_true rfl) (Nat.le_of_ble_eq_true rfl) dX0_steps_344 (fun qX H hP hD hS => ?_)
  refine lv_dup hx hb dX0_steps_347 rfl ?_
  have gq : (ws ++ [(qX, .inr (0, [.int 0, .null, .null]))])[ws.length]? = some (qX, .inr (0, [.int 0, .null, .null])) := by rw [List.getElem?_append_right (Nat.le_refl _), Nat.sub_self]; rfl
  have glen : (ws ++ [((qX, .inr (0, [.int 0, .null, .null])) : Nat × va_E)]).length = ws.length + 1 := by rw [List.length_append]; rfl
  refine wr_callv hD hS hA (va_runI (As := []) (rest := [.ref qX]) ⟨hx, hb, hml, hown, hts⟩ (f_init l D dI dF _ H.size ws.length qX gq glen.symm) (cwI 0 hts (lw_meth q106) rfl rfl rfl (hts _ q1) (hts _ q104) (hts _ q105) rfl (by decide +kernel) ⟨Nat.le_of_ble_eq_true rfl, Nat.le_of_ble_eq_true rfl⟩) (wr_preS hP hK hD) rfl rfl hl.1 rfl (lv_room (Nat.le_of_ble_eq_true rfl)) dX0_steps_348 ⟨Nat.le_of_ble_eq_true rfl, Nat.le_of_ble_eq_true rfl⟩) (fun u H locs hp hP hD hS => ?_)
  obtain ⟨hlen, hp1, hX⟩ := hp
  rw [glen] at hlen
  have hpre : ∀ j, j < ws.length → u[j]? = ws[j]? := fun j hj => (hp1 j hj).trans (List.getElem?_append_left hj)
  refine lv_astore (lv' := [(4, .ref qX), (0, .ref b), (1, .int (nI n)), (2, .int bits), (3, .int (nI (wf_k bits)))]) hx hb dX0_steps_351 hl (by decide) rfl (fun ls hl => ?_)
  refine lv_aload hx hb dX0_steps_353 (lv_at hl 0 rfl) ?_
  refine lv_iload_n hx hb dX0_steps_355 rfl (lv_at hl 2 rfl) ?_
  refine lv_iconst (v := nI 1) hx hb dX0_steps_356 (by decide) ?_
  refine lv_isub hx hb dX0_steps_357 ?_
  refine wr_topi (nI (n - 1)) (pk_sub hn1) ?_
  refine wr_callv hD hS hA (va_runV (As := [.int (nI (n - 1))]) (rest := []) ⟨hx, hb, hml, hown, hts⟩ (f_width l D dI dF _ H.size _ _ _ _ _ hX (nI (n - 1)) n (by rw [wn_w_lt' (by omega), Nat.mod_eq_of_lt (by omega)]; omega)) (cwV 1 hts (lw_V q123 q124 q125 q1 q126) rfl rfl rfl (by decide +kernel) ⟨Nat.le_of_ble_eq_true rfl, Nat.le_of_ble_eq_true rfl⟩) (wf_preV hX hP hK hD) rfl rfl hl.1 rfl (lv_room (Nat.le_of_ble_eq_true rfl)) dX0_steps_358 ⟨Nat.le_of_ble_eq_true rfl, Nat.le_of_ble_eq_true rfl⟩) (fun u H locs hp hP hD hS => ?_)
  have hpre : ∀ j, j < ws.length → u[j]? = ws[j]? := fun j hj => (hp.2.1 j (Or.inl hj)).trans (hpre j hj)
  have hlen : u.length = ws.length + 7 := by rw [hp.1, hlen]
  have hX := hp.2.2
  refine W.widen (k := 117) (n := 1179) (Nat.le_of_ble_eq_true rfl) (Nat.le_of_ble_eq_true rfl) ?_
  refine lv_aload hx hb dX0_steps_361 (lv_at hl 0 rfl) ?_
  refine lv_iconst (v := 0) hx hb dX0_steps_363 (by decide) ?_
  refine wr_calli0 hD hS hA (va_runV (As := [.int 0]) (rest := []) ⟨hx, hb, hml, hown, hts⟩ (f_less l D dI dF _ H.size _ _ _ _ _ hX hn1 hn2 0 0 (by decide) (by decide)) (cwV 1 hts (lw_V q77 q78 q79 q1 q80) rfl rfl rfl (by decide +kernel) ⟨Nat.le_of_ble_eq_true rfl, Nat.le_of_ble_eq_true rfl⟩) (wf_preV hX hP hK hD) rfl rfl hl.1 rfl (lv_room (Nat.le_of_ble_eq_true rfl)) dX0_steps_364 ⟨Nat.le_of_ble_eq_true rfl, Nat.le_of_ble_eq_true rfl⟩) (fun r_ u H locs hp hP hD hS => ?_)
  obtain ⟨hr_, hp⟩ := hp
  rw [lw_dg0] at hr_
  subst hr_
  have hpre : ∀ j, j < ws.length → u[j]? = ws[j]? := fun j hj => (hp.2.1 j (Or.inl (by omega))).trans (hpre j hj)
  have hlen : u.length = ws.length + 7 := hp.1.trans hlen
  have hX := hp.2.2
  obtain ⟨RX1, eRX1⟩ : ∃ z_, z_ = va_up (fun _ _ => 0) 0 (wr_f (wn_dw (fun _ => 0)) (fun _ => 0) n) := ⟨_, rfl⟩
  rw [← eRX1] at hX
  have x1 : ∀ i, i < n → RX1 0 i = -1 := fun i hi => by rw [eRX1]; simp only [va_up, if_pos]; rw [wr_fl _ _ hi]; show (0 : Int32) - wn_dg (fun _ => 0) i = -1; rw [lw_dg0]; rfl
  refine lv_iconst (v := (-1)) hx hb dX0_steps_367 (by decide) ?_
  refine lv_icmp_eq (tgt := 373) hx hb dX0_steps_368 (by decide) (fun _ => ?_) (fun q_ => absurd (by decide) q_)
  refine lv_iconst (v := nI 0) hx hb dX0_steps_373 (by decide) ?_
  refine lv_istore (lv' := [(5, .int (nI 0)), (4, .ref qX), (0, .ref b), (1, .int (nI n)), (2, .int bits), (3, .int (nI (wf_k bits)))]) hx hb dX0_steps_374 hl (by decide) rfl (fun ls hl => ?_)
  have loopA : (∀ (H : Heap) (locs : List Loc) (ls : Array Slot), va_P D vwCl u H → va_D A u → va_S A s.heap H locs → lv_has ls 12 [(5, .int (nI n)), (0, .ref b), (1, .int (nI n)), (4, .ref qX)] → W p l e (headSpec (ws_ yX0_steps cX0_steps 12 (some .boolean)) lw_rS).room s m (([.ref b] : List Value).toArray) below meth c H locs 117 1179 (MQ below (va_Qi (fun (r : Int32) (_ : Unit) => r = 1) (fun _ t => wr_B D A ws t) A) (([.ref b] : List Value).toArray) s 130 1310 A) (F0 m 402 ls [])) → ∀ (k i : Nat) (H : Heap) (locs : List Loc) (ls : Array Slot), i + k = n → va_P D vwCl u H → va_D A u → va_S A s.heap H locs → lv_has ls 12 [(5, .int (nI i)), (0, .ref b), (1, .int (nI n)), (4, .ref qX)] → W p l e (headSpec (ws_ yX0_steps cX0_steps 12 (some .boolean)) lw_rS).room s m (([.ref b] : List Value).toArray) below meth c H locs 117 1179 (MQ below (va_Qi (fun (r : Int32) (_ : Unit) => r = 1) (fun _ t => wr_B D A ws t) A) (([.ref b] : List Value).toArray) s 130 1310 A) (F0 m 376 ls []) := by
    intro kx k
    induction k with
    | zero =>
      intro i H locs ls hik hP hD hS hl
      have hin : i = n := by omega
      rw [hin] at hl
      refine lv_iload hx hb dX0_steps_376 (lv_at hl 0 rfl) ?_
      refine lv_iload_n hx hb dX0_steps_378 rfl (lv_at hl 2 rfl) ?_
      refine lv_icmp_ge (tgt := 402) hx hb dX0_steps_379 (by decide) (fun _ => ?_) (fun q_ => absurd (nI_le (Nat.le_refl n) hB) q_)
      exact kx H locs ls hP hD hS (lv_sub hl [0, 1, 2, 3] rfl)
    | succ k ih =>
      intro i H locs ls hik hP hD hS hl
      have hi : i < n := by omega
      refine lv_iload hx hb dX0_steps_376 (lv_at hl 0 rfl) ?_
      refine lv_iload_n hx hb dX0_steps_378 rfl (lv_at hl 2 rfl) ?_
      refine lv_icmp_ge (tgt := 402) hx hb dX0_steps_379 (by decide) (fun q_ => absurd q_ (nI_ge hi hB)) (fun _ => ?_)
      refine lv_aload hx hb dX0_steps_382 (lv_at hl 3 rfl) ?_
      refine lv_iconst (v := 0) hx hb dX0_steps_384 (by decide) ?_
      refine lv_iload hx hb dX0_steps_385 (lv_at hl 0 rfl) ?_
      refine wr_calli0 hD hS hA (va_runV (As := [.int 0, .int (nI i)]) (rest := []) ⟨hx, hb, hml, hown, hts⟩ (f_wordN l D dI dF _ H.size _ _ _ _ _ hX hn1 hn2 _ 0 (by decide) (by decide) (i) (hi)) (cwV 2 hts (lw_V q3 q4 q5 q1 q6) rfl rfl rfl (by decide +kernel) ⟨Nat.le_of_ble_eq_true rfl, Nat.le_of_ble_eq_true rfl⟩) (wf_preV hX hP hK hD) rfl rfl hl.1 rfl (lv_room (Nat.le_of_ble_eq_true rfl)) dX0_steps_387 ⟨Nat.le_of_ble_eq_true rfl, Nat.le_of_ble_eq_true rfl⟩) (fun r_ u_ H locs hp hP hD hS => ?_)
      subst hp
      refine lv_iconst (v := (-1)) hx hb dX0_steps_390 (by decide) ?_
      refine lv_icmp_eq (tgt := 396) hx hb dX0_steps_391 (by decide) (fun _ => ?_) (fun q_ => absurd (x1 i hi) q_)
      refine lv_iinc (v := nI (i + 1)) (lv' := [(5, .int (nI (i + 1))), (0, .ref b), (1, .int (nI n)), (4, .ref qX)]) hx hb dX0_steps_396 hl (k := 0) rfl (wn_inc i) (by decide) rfl (fun ls hl => ?_)
      refine lv_goto (tgt := 376) hx hb dX0_steps_399 (by decide) ?_
      exact ih (i + 1) H locs ls (by omega) hP hD hS (lv_sub hl [0, 1, 2, 3] rfl)
  refine loopA ?_ n 0 H locs ls (by omega) hP hD hS (lv_sub hl [0, 2, 3, 1] rfl)
  clear loopA
  intro H locs ls hP hD hS hl
  refine lv_aload hx hb dX0_steps_402 (lv_at hl 3 rfl) ?_
  refine lv_iconst (v := 0) hx hb dX0_steps_404 (by decide) ?_
  refine wr_calli0 hD hS hA (va_runV (As := [.int 0]) (rest := []) ⟨hx, hb, hml, hown, hts⟩ (f_more l D dI dF _ H.size _ _ _ _ _ hX hn1 hn2 0 0 (by decide) (by decide)) (cwV 1 hts (lw_V q70 q71 q72 q1 q73) rfl rfl rfl (by decide +kernel) ⟨Nat.le_of_ble_eq_true rfl, Nat.le_of_ble_eq_true rfl⟩) (wf_preV hX hP hK hD) rfl rfl hl.1 rfl (lv_room (Nat.le_of_ble_eq_true rfl)) dX0_steps_405 ⟨Nat.le_of_ble_eq_true rfl, Nat.le_of_ble_eq_true rfl⟩) (fun r_ u H locs hp hP hD hS => ?_)
  obtain ⟨hr_, hp⟩ := hp
  rw [lw_ig1 x1 n (Nat.le_refl n)] at hr_
  subst hr_
  have hpre : ∀ j, j < ws.length → u[j]? = ws[j]? := fun j hj => (hp.2.1 j (Or.inl (by omega))).trans (hpre j hj)
  have hlen : u.length = ws.length + 7 := hp.1.trans hlen
  have hX := hp.2.2
  obtain ⟨RX2, eRX2⟩ : ∃ z_, z_ = va_up RX1 0 (wr_f (wn_iw (RX1 0)) (RX1 0) n) := ⟨_, rfl⟩
  rw [← eRX2] at hX
  have x2 : ∀ i, i < n → RX2 0 i = 0 := fun i hi => by rw [eRX2]; simp only [va_up, if_pos]; rw [wr_fl _ _ hi]; show RX1 0 i + wn_ig (RX1 0) i = 0; rw [lw_ig1 x1 i (by omega), x1 i hi]; rfl
  refine lv_iconst (v := 1) hx hb dX0_steps_408 (by decide) ?_
  refine lv_icmp_eq (tgt := 414) hx hb dX0_steps_409 (by decide) (fun _ => ?_) (fun q_ => absurd (by decide) q_)
  refine lv_aload_n hx hb dX0_steps_414 rfl (lv_at hl 1 rfl) ?_
  refine wr_callr hD hS hA (va_runS (As := [.ref b]) (rest := []) ⟨hx, hb, hml, hown, hts⟩ (c_three l D dI dF _ H.size b L xs hL n hn) (va_cwS 1 hts (lw_S q99 q100 q0 q101) rfl rfl rfl (by decide +kernel) ⟨Nat.le_of_ble_eq_true rfl, Nat.le_of_ble_eq_true rfl⟩) (wr_preX hX0 hbl hbA hP hK hD hS) rfl rfl hl.1 rfl (lv_room (Nat.le_of_ble_eq_true rfl)) dX0_steps_415 ⟨Nat.le_of_ble_eq_true rfl, Nat.le_of_ble_eq_true rfl⟩) (fun u qY H locs hp hP hD hS => ?_)
  obtain ⟨hl_, hp_, RY, wY, hY, hRY⟩ := hp
  rw [hlen] at hl_ hY
  have hX := wf_mono hX (fun j _ h8 => hp_ j (by omega))
  have hpre : ∀ j, j < ws.length → u[j]? = ws[j]? := fun j hj => (hp_ j (by omega)).trans (hpre j hj)
  have hlen : u.length = ws.length + 14 := by omega
  refine lv_astore (lv' := [(5, .ref qY), (0, .ref b), (1, .int (nI n)), (4, .ref qX)]) hx hb dX0_steps_418 hl (by decide) rfl (fun ls hl => ?_)
  refine W.widen (k := 130) (n := 1310) (Nat.le_of_ble_eq_true rfl) (Nat.le_of_ble_eq_true rfl) ?_
  refine lv_aload hx hb dX0_steps_420 (lv_at hl 0 rfl) ?_
  refine lv_iconst (v := 0) hx hb dX0_steps_422 (by decide) ?_
  refine lv_iconst (v := 0) hx hb dX0_steps_423 (by decide) ?_
  refine lv_iconst (v := 0) hx hb dX0_steps_424 (by decide) ?_
  refine wr_calli0 hD hS hA (va_runV (As := [.int 0, .int 0, .int 0]) (rest := []) ⟨hx, hb, hml, hown, hts⟩ (f_subtract l D dI dF _ H.size _ _ _ _ _ hY hn1 hn2 0 0 (by decide) (by decide) 0 0 (by decide) (by decide) 0 0 (by decide) (by decide)) (cwV 3 hts (lw_V q15 q16 q17 q1 q18) rfl rfl rfl (by decide +kernel) ⟨Nat.le_of_ble_eq_true rfl, Nat.le_of_ble_eq_true rfl⟩) (wf_preV hY hP hK hD) rfl rfl hl.1 rfl (lv_room (Nat.le_of_ble_eq_true rfl)) dX0_steps_425 ⟨Nat.le_of_ble_eq_true rfl, Nat.le_of_ble_eq_true rfl⟩) (fun r_ u H locs hp hP hD hS => ?_)
  obtain ⟨-, hp⟩ := hp
  have hX := wf_keep hp hX (by omega)
  have hpre : ∀ j, j < ws.length → u[j]? = ws[j]? := fun j hj => (hp.2.1 j (Or.inl (by omega))).trans (hpre j hj)
  have hlen : u.length = ws.length + 14 := hp.1.trans hlen
  have hY := hp.2.2
  obtain ⟨RY1, eRY1⟩ : ∃ z_, z_ = va_up RY 0 (wr_f (wn_bw (RY 0) (RY 0)) (RY 0) n) := ⟨_, rfl⟩
  rw [← eRY1] at hY
  refine lv_pop hx hb dX0_steps_428 rfl ?_
  have y1 : ∀ i, i < n → RY1 0 i = 0 := fun i hi => by rw [eRY1]; simp only [va_up, if_pos]; rw [wr_fl _ _ hi]; exact lw_bw0 _ _
  refine lv_iconst (v := nI 0) hx hb dX0_steps_429 (by decide) ?_
  refine lv_istore (lv' := [(6, .int (nI 0)), (5, .ref qY), (0, .ref b), (1, .int (nI n)), (4, .ref qX)]) hx hb dX0_steps_430 hl (by decide) rfl (fun ls hl => ?_)
  have loopB : (∀ (H : Heap) (locs : List Loc) (ls : Array Slot), va_P D vwCl u H → va_D A u → va_S A s.heap H locs → lv_has ls 12 [(6, .int (nI n)), (0, .ref b), (1, .int (nI n)), (4, .ref qX), (5, .ref qY)] → W p l e (headSpec (ws_ yX0_steps cX0_steps 12 (some .boolean)) lw_rS).room s m (([.ref b] : List Value).toArray) below meth c H locs 130 1310 (MQ below (va_Qi (fun (r : Int32) (_ : Unit) => r = 1) (fun _ t => wr_B D A ws t) A) (([.ref b] : List Value).toArray) s 130 1310 A) (F0 m 468 ls [])) → ∀ (k i : Nat) (H : Heap) (locs : List Loc) (ls : Array Slot), i + k = n → va_P D vwCl u H → va_D A u → va_S A s.heap H locs → lv_has ls 12 [(6, .int (nI i)), (0, .ref b), (1, .int (nI n)), (4, .ref qX), (5, .ref qY)] → W p l e (headSpec (ws_ yX0_steps cX0_steps 12 (some .boolean)) lw_rS).room s m (([.ref b] : List Value).toArray) below meth c H locs 130 1310 (MQ below (va_Qi (fun (r : Int32) (_ : Unit) => r = 1) (fun _ t => wr_B D A ws t) A) (([.ref b] : List Value).toArray) s 130 1310 A) (F0 m 432 ls []) := by
    intro kx k
    induction k with
    | zero =>
      intro i H locs ls hik hP hD hS hl
      have hin : i = n := by omega
      rw [hin] at hl
      refine lv_iload hx hb dX0_steps_432 (lv_at hl 0 rfl) ?_
      refine lv_iload_n hx hb dX0_steps_434 rfl (lv_at hl 2 rfl) ?_
      refine lv_icmp_ge (tgt := 468) hx hb dX0_steps_435 (by decide) (fun _ => ?_) (fun q_ => absurd (nI_le (Nat.le_refl n) hB) q_)
      exact kx H locs ls hP hD hS (lv_sub hl [0, 1, 2, 3, 4] rfl)
    | succ k ih =>
      intro i H locs ls hik hP hD hS hl
      have hi : i < n := by omega
      refine lv_iload hx hb dX0_steps_432 (lv_at hl 0 rfl) ?_
      refine lv_iload_n hx hb dX0_steps_434 rfl (lv_at hl 2 rfl) ?_
      refine lv_icmp_ge (tgt := 468) hx hb dX0_steps_435 (by decide) (fun q_ => absurd q_ (nI_ge hi hB)) (fun _ => ?_)
      refine lv_aload hx hb dX0_steps_438 (lv_at hl 4 rfl) ?_
      refine lv_iconst (v := 0) hx hb dX0_steps_440 (by decide) ?_
      refine lv_iload hx hb dX0_steps_441 (lv_at hl 0 rfl) ?_
      refine wr_calli0 hD hS hA (va_runV (As := [.int 0, .int (nI i)]) (rest := []) ⟨hx, hb, hml, hown, hts⟩ (f_wordN l D dI dF _ H.size _ _ _ _ _ hY hn1 hn2 _ 0 (by decide) (by decide) (i) (hi)) (cwV 2 hts (lw_V q3 q4 q5 q1 q6) rfl rfl rfl (by decide +kernel) ⟨Nat.le_of_ble_eq_true rfl, Nat.le_of_ble_eq_true rfl⟩) (wf_preV hY hP hK hD) rfl rfl hl.1 rfl (lv_room (Nat.le_of_ble_eq_true rfl)) dX0_steps_443 ⟨Nat.le_of_ble_eq_true rfl, Nat.le_of_ble_eq_true rfl⟩) (fun r_ u_ H locs hp hP hD hS => ?_)
      subst hp
      refine lv_if_ne (tgt := 460) hx hb dX0_steps_446 (by decide) (fun q_ => absurd (y1 i hi) q_) (fun _ => ?_)
      refine lv_aload hx hb dX0_steps_449 (lv_at hl 3 rfl) ?_
      refine lv_iconst (v := 0) hx hb dX0_steps_451 (by decide) ?_
      refine lv_iload hx hb dX0_steps_452 (lv_at hl 0 rfl) ?_
      refine wr_calli0 hD hS hA (va_runV (As := [.int 0, .int (nI i)]) (rest := []) ⟨hx, hb, hml, hown, hts⟩ (f_wordN l D dI dF _ H.size _ _ _ _ _ hX hn1 hn2 _ 0 (by decide) (by decide) (i) (hi)) (cwV 2 hts (lw_V q3 q4 q5 q1 q6) rfl rfl rfl (by decide +kernel) ⟨Nat.le_of_ble_eq_true rfl, Nat.le_of_ble_eq_true rfl⟩) (wf_preV hX hP hK hD) rfl rfl hl.1 rfl (lv_room (Nat.le_of_ble_eq_true rfl)) dX0_steps_454 ⟨Nat.le_of_ble_eq_true rfl, Nat.le_of_ble_eq_true rfl⟩) (fun r_ u_ H locs hp hP hD hS => ?_)
      subst hp
      refine lv_if_eq (tgt := 462) hx hb dX0_steps_457 (by decide) (fun _ => ?_) (fun q_ => absurd (x2 i hi) q_)
      refine lv_iinc (v := nI (i + 1)) (lv' := [(6, .int (nI (i + 1))), (0, .ref b), (1, .int (nI n)), (4, .ref qX), (5, .ref qY)]) hx hb dX0_steps_462 hl (k := 0) rfl (wn_inc i) (by decide) rfl (fun ls hl => ?_)
      refine lv_goto (tgt := 432) hx hb dX0_steps_465 (by decide) ?_
      exact ih (i + 1) H locs ls (by omega) hP hD hS (lv_sub hl [0, 1, 2, 3, 4] rfl)
  refine loopB ?_ n 0 H locs ls (by omega) hP hD hS (lv_sub hl [0, 2, 3, 4, 1] rfl)
  clear loopB
  intro H locs ls hP hD hS hl
  refine lv_iconst (v := 1) hx hb dX0_steps_468 (by decide) ?_
  exact wr_zret () hx hb hr hlocks rfl (lw_preP hpre hP) (lw_preD hpre hD) hS (rfl) (Nat.le_of_ble_eq_true rfl) (Nat.le_of_ble_eq_true rfl) dX0_steps_469
end
section
/-! Int32 by its bits: rows pasted from the kit (laws/BITS.to-paste), then the law's own -/
set_option maxRecDepth 100000
def bt (x : Int32) (i : Nat) : Bool := x.toBitVec.getLsbD i
theorem b_ext {x y : Int32} (h : ∀ i, i < 32 → bt x i = bt y i) : x = y := Int32.toBitVec_inj.mp (BitVec.eq_of_getLsbD_eq (fun i hi => h i hi))
theorem b_or (x y : Int32) (i : Nat) : bt (x ||| y) i = (bt x i || bt y i) := by unfold bt; rw [Int32.toBitVec_or, BitVec.getLsbD_or]
theorem b_and (x y : Int32) (i : Nat) : bt (x &&& y) i = (bt x i && bt y i) := by unfold bt; rw [Int32.toBitVec_and, BitVec.getLsbD_and]
theorem b_big {x : Int32} {i : Nat} (h : 32 ≤ i) : bt x i = false := BitVec.getLsbD_of_ge _ _ h
theorem b_m1 : ∀ i, i < 32 → bt (-1) i = true := by decide +kernel
theorem b_0 (i : Nat) : bt 0 i = false := BitVec.getLsbD_zero
theorem s_l : ∀ n, n < 32 → ((nI n &&& 31).toBitVec.smod 32).toNat = n := by decide +kernel
theorem s_u : ∀ n, n < 32 → (((nI n).toUInt32 &&& Int32.toUInt32 31).toBitVec % 32).toNat = n := by decide +kernel
theorem b_shl (n : Nat) (hn : n < 32) (x : Int32) {i : Nat} (hi : i < 32) : bt (x <<< (nI n &&& 31)) i = (decide (n ≤ i) && bt x (i - n)) := by
  unfold bt
  rw [Int32.toBitVec_shiftLeft]
  show (x.toBitVec <<< ((nI n &&& 31).toBitVec.smod 32).toNat).getLsbD i = _
  rw [s_l n hn, BitVec.getLsbD_shiftLeft]
  rcases Nat.lt_or_ge i n with h | h
  · simp [h, Nat.not_le.mpr h]
  · simp [hi, h, Nat.not_lt.mpr h]
theorem b_ushr (n : Nat) (hn : n < 32) (x : Int32) (i : Nat) : bt ((x.toUInt32 >>> ((nI n).toUInt32 &&& Int32.toUInt32 31)).toInt32) i = bt x (n + i) := by
  show (x.toUInt32 >>> ((nI n).toUInt32 &&& Int32.toUInt32 31)).toBitVec.getLsbD i = x.toUInt32.toBitVec.getLsbD (n + i)
  rw [UInt32.toBitVec_shiftRight]
  show (x.toUInt32.toBitVec >>> (((nI n).toUInt32 &&& Int32.toUInt32 31).toBitVec % 32).toNat).getLsbD i = _
  rw [s_u n hn, BitVec.getLsbD_ushiftRight]
theorem lw_bsu {k : Nat} (hk : k < 32) (x : Int32) {i : Nat} (hi : i < 32) : bt (wn_su x (nI k)) i = (decide (k ≤ i) && bt x (i - k)) := b_shl k hk x hi
theorem lw_bur {k : Nat} (hk : k < 32) (x : Int32) (i : Nat) : bt (wn_ur x (nI k)) i = bt x (k + i) := b_ushr k hk x i
theorem lw_negU {k : Nat} (h1 : 1 ≤ k) (h2 : k < 32) (x : Int32) : wn_ur x (-nI k) = wn_ur x (nI (32 - k)) := by
  unfold wn_ur
  rw [lw_shU k h2 h1]
theorem lw_negS {k : Nat} (h1 : 1 ≤ k) (h2 : k < 32) (x : Int32) : wn_su x (-nI k) = wn_su x (nI (32 - k)) := by
  unfold wn_su
  rw [lw_shS k h2 h1]
/-- up by k bits and down again: a word below the top -/
theorem lw_ud {k : Nat} (h1 : 1 ≤ k) (h2 : k < 32) (x p y : Int32) : wn_ur (wn_su x (nI k) ||| wn_ur p (-nI k)) (nI k) ||| wn_su (wn_su y (nI k) ||| wn_ur x (-nI k)) (-nI k) = x := by
  rw [lw_negU h1 h2, lw_negU h1 h2, lw_negS h1 h2]
  apply b_ext
  intro i hi
  rw [b_or, lw_bur h2, lw_bsu (by omega) _ hi]
  rcases Nat.lt_or_ge i (32 - k) with g | g
  · rw [b_or, lw_bsu h2 _ (by omega), lw_bur (by omega), decide_eq_false (show ¬ 32 - k ≤ i by omega), decide_eq_true (show k ≤ k + i by omega), show 32 - k + (k + i) = 32 + i by omega, b_big (show 32 ≤ 32 + i by omega), show k + i - k = i by omega]
    simp
  · rw [b_big (show 32 ≤ k + i by omega), b_or, lw_bsu h2 _ (by omega), lw_bur (by omega), decide_eq_true g, decide_eq_false (show ¬ k ≤ i - (32 - k) by omega), show 32 - k + (i - (32 - k)) = i by omega]
    simp
/-- the top word loses what went out -/
theorem lw_udt {k : Nat} (h1 : 1 ≤ k) (h2 : k < 32) (x p : Int32) : wn_ur (wn_su x (nI k) ||| wn_ur p (-nI k)) (nI k) ||| wn_su 0 (-nI k) = x &&& wn_ur (-1) (nI k) := by
  rw [lw_negU h1 h2, lw_negS h1 h2]
  apply b_ext
  intro i hi
  rw [b_or, lw_bur h2, lw_bsu (by omega) _ hi, b_and, lw_bur h2, b_0]
  rcases Nat.lt_or_ge i (32 - k) with g | g
  · rw [b_or, lw_bsu h2 _ (by omega), lw_bur (by omega), decide_eq_true (show k ≤ k + i by omega), show 32 - k + (k + i) = 32 + i by omega, b_big (show 32 ≤ 32 + i by omega), show k + i - k = i by omega, b_m1 (k + i) (by omega)]
    simp
  · rw [b_big (show 32 ≤ k + i by omega), b_big (show 32 ≤ k + i by omega)]
    simp
/-- nothing goes out below -/
theorem lw_ud0 {k : Nat} (h1 : 1 ≤ k) (h2 : k < 32) (x : Int32) : wn_su (wn_su x (nI k) ||| wn_ur 0 (-nI k)) (-nI k) = 0 := by
  rw [lw_negU h1 h2, lw_negS h1 h2]
  apply b_ext
  intro i hi
  rw [lw_bsu (by omega) _ hi, b_0]
  rcases Nat.lt_or_ge i (32 - k) with g | g
  · rw [decide_eq_false (show ¬ 32 - k ≤ i by omega)]
    rfl
  · rw [b_or, lw_bsu h2 _ (by omega), lw_bur (by omega), decide_eq_false (show ¬ k ≤ i - (32 - k) by omega), b_0]
    simp
theorem lw_bw_congr {f g x y : Nat → Int32} {n : Nat} (h : ∀ j, j < n → f j = g j) (h2 : ∀ j, j < n → x j = y j) : ∀ i, i ≤ n → wn_b f x i = wn_b g y i
  | 0, _ => rfl
  | i + 1, hi => by
    show (wn_b f x i + ((wn_w (f i) : Int) - wn_w (x i))) / 4294967296 = (wn_b g y i + ((wn_w (g i) : Int) - wn_w (y i))) / 4294967296
    rw [lw_bw_congr h h2 i (by omega), h i (by omega), h2 i (by omega)]
theorem lw_bww_congr {f g x y : Nat → Int32} {n : Nat} (h : ∀ j, j < n → f j = g j) (h2 : ∀ j, j < n → x j = y j) {i : Nat} (hi : i < n) : wn_bw f x i = wn_bw g y i := by
  show Int32.ofInt (wn_b f x i + ((wn_w (f i) : Int) - wn_w (x i))) = Int32.ofInt (wn_b g y i + ((wn_w (g i) : Int) - wn_w (y i)))
  rw [lw_bw_congr h h2 i (by omega), h i hi, h2 i hi]
theorem lw_gA_congr {f g x y : Nat → Int32} {n : Nat} (h : ∀ j, j < n → f j = g j) (h2 : ∀ j, j < n → x j = y j) (j : Nat) (hj : j < n) : wn_gA f x j = wn_gA g y j := by
  show wn_w (f j) + wn_w (x j) = wn_w (g j) + wn_w (y j)
  rw [h j hj, h2 j hj]
theorem lw_orM (c : Int32) : wn_w (c ||| (-2147483648)) % 16 = wn_w c % 16 := by
  have h : wn_w (c ||| (-2147483648)) = wn_w c ||| 2147483648 := by
    show (c ||| (-2147483648)).toBitVec.toNat = _
    rw [Int32.toBitVec_or, BitVec.toNat_or]
    rfl
  rw [h]
  have h2 := Nat.or_mod_two_pow (a := wn_w c) (b := 2147483648) (n := 4)
  show (wn_w c ||| 2147483648) % 2 ^ 4 = wn_w c % 2 ^ 4
  rw [h2]
  show wn_w c % 2 ^ 4 ||| 0 = _
  rw [Nat.or_zero]
/-- the sum less the second is the first; it borrows just when the sum carried -/
theorem lw_addsub {s a b : Nat → Int32} {n : Nat} (hs : ∀ i, i < n → s i = wn_cw (wn_gA a b) i) : (∀ i, i < n → wn_bw s b i = a i) ∧ wn_b s b n = -(wn_c (wn_gA a b) n : Int) := by
  have h1 := wn_c_v (wn_gA a b) n
  rw [wn_gA_v, ← lw_val hs] at h1
  have h2 := wn_b_v s b n
  have l1 := wn_v_lt (g := wn_d (wn_bw s b)) (fun i => wn_w_lt _) n
  have l2 := wn_v_lt (g := wn_d a) (fun i => wn_w_lt _) n
  have hc := wn_c_le1 (wn_gA_le a b) n
  have hb := wn_b_in s b n
  have hp := wn_p_pos n
  rcases (show wn_c (wn_gA a b) n = 0 ∨ wn_c (wn_gA a b) n = 1 by omega) with g | g <;> rcases hb with g2 | g2 <;> rw [g] at h1 <;> rw [g2] at h2
  · exact ⟨fun i hi => wn_v_injI n (by omega) i hi, by rw [g, g2]; rfl⟩
  · omega
  · omega
  · exact ⟨fun i hi => wn_v_injI n (by omega) i hi, by rw [g, g2]; rfl⟩
/-- the sum is at least the first just when it didn't carry -/
theorem lw_addge {s a b : Nat → Int32} {n : Nat} (hs : ∀ i, i < n → s i = wn_cw (wn_gA a b) i) : wn_v (wn_d a) n ≤ wn_v (wn_d s) n ↔ wn_c (wn_gA a b) n = 0 := by
  have h1 := wn_c_v (wn_gA a b) n
  rw [wn_gA_v, ← lw_val hs] at h1
  have l2 := wn_v_lt (g := wn_d b) (fun i => wn_w_lt _) n
  have hc := wn_c_le1 (wn_gA_le a b) n
  rcases (show wn_c (wn_gA a b) n = 0 ∨ wn_c (wn_gA a b) n = 1 by omega) with g | g <;> rw [g] at h1
  · constructor
    · intro; exact g
    · intro; omega
  · constructor
    · intro; omega
    · intro q; omega
/-- a row of longs that are words -/
def lw_row (Z : Nat → Int32) : Nat → Int64 := fun q => lN (wn_w (Z q))
theorem lw_row0 : (fun _ => (0 : Int64)) = lw_row (fun _ => 0) := rfl
theorem lw_rowU (Z : Nat → Int32) (p : Nat) (v : Int32) : vp_updL (lw_row Z) p (lN (wn_w v)) = lw_row (upd Z p v) := by
  funext q
  show (if q = p then lN (wn_w v) else lN (wn_w (Z q))) = lN (wn_w (if q = p then v else Z q))
  by_cases h : q = p
  · rw [if_pos h, if_pos h]
  · rw [if_neg h, if_neg h]
theorem lw_m16 {n : Nat} (hn : n < 18446744073709551616) : lN n &&& 65535 = lN (n % 65536) := wn_mask (k := 16) hn (by decide)
theorem lw_m32 {n : Nat} (hn : n < 18446744073709551616) : lN n &&& 4294967295 = lN (n % 4294967296) := wn_mask (k := 32) hn (by decide)
theorem lw_sr16 {n : Nat} (hn : n < 18446744073709551616) : ((lN n).toUInt64 >>> ((16 : Int32).toInt64.toUInt64 &&& Int64.toUInt64 63)).toInt64 = lN (n / 65536) := wn_shr (k := 16) hn (by decide)
theorem lw_sl16 (n : Nat) : lN n <<< ((16 : Int32).toInt64 &&& 63) = lN (n * 65536) := by
  apply wn_inj
  rw [Int64.toBitVec_shiftLeft, wn_tb, wn_tb]
  have h : ((16 : Int32).toInt64 &&& 63).toBitVec.smod 64 = 16#64 := by decide
  rw [h]
  apply BitVec.eq_of_toNat_eq
  rw [BitVec.shiftLeft_eq', BitVec.toNat_shiftLeft, BitVec.toNat_ofNat, BitVec.toNat_ofNat, Nat.shiftLeft_eq]
  show n % 2 ^ 64 * 2 ^ 16 % 2 ^ 64 = n * 65536 % 2 ^ 64
  rw [Nat.mul_mod, Nat.mod_mod, ← Nat.mul_mod]
/-- the long product in halves -/
theorem lw_half {a b z c : Nat} (ha : a < 4294967296) (hb : b < 4294967296) (hz : z < 4294967296) (hc : c < 4294967296) :
    let low := a * (b % 65536)
    let high := a * (b / 65536)
    let t := z + c + low % 4294967296 + high % 65536 * 65536
    low < 281474976710656 ∧ high < 281474976710656 ∧ t < 18446744073709551616 ∧ t % 4294967296 = (c + (a * b + z)) % 4294967296 ∧ t / 4294967296 + low / 4294967296 + high / 65536 = (c + (a * b + z)) / 4294967296 := by
  intro low high t
  have h1 : a * b = low + high * 65536 := by
    have h2 := Nat.mod_add_div b 65536
    have h3 : a * b = a * (b % 65536 + 65536 * (b / 65536)) := by rw [h2]
    rw [h3, Nat.mul_add, ← Nat.mul_assoc, Nat.mul_comm a 65536, Nat.mul_assoc, Nat.mul_comm 65536]
  have h4 : low ≤ 4294967295 * 65535 := Nat.mul_le_mul (by omega) (by omega)
  have h5 : high ≤ 4294967295 * 65535 := Nat.mul_le_mul (by omega) (by omega)
  have ht : t = z + c + low % 4294967296 + high % 65536 * 65536 := rfl
  rw [h1]
  clear_value low high t
  omega
end
section
/-! WholeFileLaw: places -/
set_option maxHeartbeats 4000000 in
set_option maxRecDepth 100000 in
/-- the law: places -/
theorem c_places (l : Launch) (D : va_G) (dI dF : ClassId) (ws : va_W) (sz : Nat) (b L : Nat) (xs : Nat → Int32) (hL : L < 2 ^ 31) : Met l yX0_places (ws_ yX0_places cX0_places 5 (some .boolean)) lw_rP (wr_PX D dI dF [.ref b] ws sz b L xs) (va_Qi (fun (r : Int32) (_ : Unit) => r = 1) (fun _ t => wr_B D (va_A ws sz) ws t) (va_A ws sz)) 39 393 (va_A ws sz) := by
  refine Met.ofW (cc := cX0_places) (maxL := 5) (ret := (some .boolean)) (by decide) rfl ?_
  intro p e s m args below meth c s₁ B hml hv
  obtain ⟨rfl, hsz, hP, hK, hD0, hX0, hbl, hbw⟩ := hv
  have hx := B.exec
  have hb := B.bytes
  have hr := B.returns
  have hts := atoms_spec (ws := ws_ yX0_places cX0_places 5 (some .boolean)) B.pre
  have hts : ∀ w ∈ lw_all, w.before _ s = true := fun w h => hts w (List.mem_cons_of_mem _ h)
  have hown : s.vm.findClass RX0 = some m.cls := findClass_of_methodNamed B.named
  have hlocks := B.notSynchronized
  subst hsz
  have hD := hD0.self (sz := s.heap.size)
  have hbA : ¬ va_A ws s.heap.size b := fun h => h.elim (fun ⟨k, e, h⟩ => hbw k e h) (fun h => absurd hbl (Nat.not_lt.mpr h))
  generalize hAe : va_A ws s.heap.size = A at hD hbA ⊢
  have hA : ∀ q : Nat, s.heap.size ≤ q → A q := fun q h => by rw [← hAe]; exact Or.inr h
  have hS : va_S A s.heap s.heap [] := va_S.rf
  have hl := lv_entry ([.ref b]) (n := 5) (Nat.le_of_ble_eq_true rfl)
  rw [lg_entry_eq]
  generalize (lg_sl ([.ref b]) ++ List.replicate (5 - (lg_sl ([.ref b])).length) Slot.unset).toArray = ls at hl ⊢
  have hl : lv_has ls 5 [(0, .ref b)] := hl
  obtain ⟨n, hn⟩ : ∃ n, n = lw_N L xs := ⟨_, rfl⟩
  obtain ⟨hn1, hn2⟩ := lw_N_in hn
  have hB : n < 2 ^ 31 := by omega
  have hB2 : n + n < 2 ^ 31 := by omega
  refine va_new (ci := 0) (fs := [.int 0, .null, .null]) (C := RX1) (T := TX1) (N := 3) hx hb hts in_X1 tyX1 tyX1_ok hown (hts _ q102) (hts _ q103) (hts _ q1) hK.1 hP hD hS hA rfl (fun j hj => by rcases (show j = 0 ∨ j = 1 ∨ j = 2 by omega) with rfl | rfl | rfl <;> rfl) (Nat.le_of_ble_eq_true rfl) (Nat.le_of_ble_eq_true rfl) dX0_places_0 (fun qO H hP hD hS => ?_)
  refine lv_dup hx hb dX0_places_3 rfl ?_
  have gq : (ws ++ [(qO, .inr (0, [.int 0, .null, .null]))])[ws.length]? = some (qO, .inr (0, [.int 0, .null, .null])) := by rw [List.getElem?_append_right (Nat.le_refl _), Nat.sub_self]; rfl
  have glen : (ws ++ [((qO, .inr (0, [.int 0, .null, .null])) : Nat × va_E)]).length = ws.length + 1 := by rw [List.length_append]; rfl
  refine wr_callv hD hS hA (va_runI (As := []) (rest := [.ref qO]) ⟨hx, hb, hml, hown, hts⟩ (f_init l D dI dF _ H.size ws.length qO gq glen.symm) (cwI 0 hts (lw_meth q106) rfl rfl rfl (hts _ q1) (hts _ q104) (hts _ q105) rfl (by decide +kernel) ⟨Nat.le_of_ble_eq_true rfl, Nat.le_of_ble_eq_true rfl⟩) (wr_preS hP hK hD) rfl rfl hl.1 rfl (lv_room (Nat.le_of_ble_eq_true rfl)) dX0_places_4 ⟨Nat.le_of_ble_eq_true rfl, Nat.le_of_ble_eq_true rfl⟩) (fun u H locs hp hP hD hS => ?_)
  obtain ⟨hlen, hp1, hX⟩ := hp
  rw [glen] at hlen
  have hpre : ∀ j, j < ws.length → u[j]? = ws[j]? := fun j hj => (hp1 j hj).trans (List.getElem?_append_left hj)
  have hO := hX
  clear hX
  refine lv_astore_n (lv' := [(1, .ref qO), (0, .ref b)]) hx hb dX0_places_7 rfl hl (by decide) rfl (fun ls hl => ?_)
  have hlen : u.length = ws.length + 7 := by omega
  refine W.widen (k := 7) (n := 31) (Nat.le_of_ble_eq_true rfl) (Nat.le_of_ble_eq_true rfl) ?_
  refine lv_iconst (v := nI 0) hx hb dX0_places_8 (by decide) ?_
  refine lv_istore_n (lv' := [(2, .int (nI 0)), (1, .ref qO), (0, .ref b)]) hx hb dX0_places_9 rfl hl (by decide) rfl (fun ls hl => ?_)
  have loop1 : (∀ (H : Heap) (locs : List Loc) (ls : Array Slot), va_P D vwCl u H → va_D A u → va_S A s.heap H locs → lv_has ls 5 [(2, .int (nI 8)), (0, .ref b), (1, .ref qO)] → W p l e (headSpec (ws_ yX0_places cX0_places 5 (some .boolean)) lw_rP).room s m (([.ref b] : List Value).toArray) below meth c H locs 7 31 (MQ below (va_Qi (fun (r : Int32) (_ : Unit) => r = 1) (fun _ t => wr_B D A ws t) A) (([.ref b] : List Value).toArray) s 39 393 A) (F0 m 41 ls [])) → ∀ (k i : Nat) (H : Heap) (locs : List Loc) (ls : Array Slot), i + k = 8 → va_P D vwCl u H → va_D A u → va_S A s.heap H locs → lv_has ls 5 [(2, .int (nI i)), (0, .ref b), (1, .ref qO)] → W p l e (headSpec (ws_ yX0_places cX0_places 5 (some .boolean)) lw_rP).room s m (([.ref b] : List Value).toArray) below meth c H locs 7 31 (MQ below (va_Qi (fun (r : Int32) (_ : Unit) => r = 1) (fun _ t => wr_B D A ws t) A) (([.ref b] : List Value).toArray) s 39 393 A) (F0 m 10 ls []) := by
    intro kx k
    induction k with
    | zero =>
      intro i H locs ls hik hP hD hS hl
      have hin : i = 8 := by omega
      rw [hin] at hl
      refine lv_iload_n hx hb dX0_places_10 rfl (lv_at hl 0 rfl) ?_
      refine lv_bipush (v := nI 8) hx hb dX0_places_11 (by decide) ?_
      refine lv_icmp_ge (tgt := 41) hx hb dX0_places_13 (by decide) (fun _ => ?_) (fun q_ => absurd (nI_le (Nat.le_refl _) (by omega)) q_)
      exact kx H locs ls hP hD hS (lv_sub hl [0, 1, 2] rfl)
    | succ k ih =>
      intro i H locs ls hik hP hD hS hl
      have hi : i < 8 := by omega
      refine lv_iload_n hx hb dX0_places_10 rfl (lv_at hl 0 rfl) ?_
      refine lv_bipush (v := nI 8) hx hb dX0_places_11 (by decide) ?_
      refine lv_icmp_ge (tgt := 41) hx hb dX0_places_13 (by decide) (fun q_ => absurd q_ (nI_ge hi (by omega))) (fun _ => ?_)
      refine lv_aload_n hx hb dX0_places_16 rfl (lv_at hl 2 rfl) ?_
      refine lv_iload_n hx hb dX0_places_17 rfl (lv_at hl 0 rfl) ?_
      refine lv_iload_n hx hb dX0_places_18 rfl (lv_at hl 0 rfl) ?_
      refine wr_calli0 hD hS hA (va_runV (As := [.int (nI i), .int (nI i)]) (rest := []) ⟨hx, hb, hml, hown, hts⟩ (f_word l D dI dF _ H.size _ _ _ _ _ hO (by decide) (by decide) _ (i % 4) (by omega) (pk_andN (by omega) 2 (by decide)) _ (i) (by omega) (lw_and15 (by omega))) (cwV 2 hts (lw_V q3 q4 q5 q1 q6) rfl rfl rfl (by decide +kernel) ⟨Nat.le_of_ble_eq_true rfl, Nat.le_of_ble_eq_true rfl⟩) (wf_preV hO hP hK hD) rfl rfl hl.1 rfl (lv_room (Nat.le_of_ble_eq_true rfl)) dX0_places_19 ⟨Nat.le_of_ble_eq_true rfl, Nat.le_of_ble_eq_true rfl⟩) (fun r_ u_ H locs hp hP hD hS => ?_)
      subst hp
      refine wr_topi (0) (rfl) ?_
      refine lv_if_ne (tgt := 33) hx hb dX0_places_22 (by decide) (fun q_ => absurd rfl q_) (fun _ => ?_)
      refine lv_aload_n hx hb dX0_places_25 rfl (lv_at hl 2 rfl) ?_
      refine lv_iload_n hx hb dX0_places_26 rfl (lv_at hl 0 rfl) ?_
      refine wr_calli0 hD hS hA (va_runV (As := [.int (nI i)]) (rest := []) ⟨hx, hb, hml, hown, hts⟩ (f_wide l D dI dF _ H.size _ _ _ _ _ hO (by decide) (by decide) _ (i) (by omega) (lw_and31 (by omega))) (cwV 1 hts (lw_V q92 q93 q94 q1 q95) rfl rfl rfl (by decide +kernel) ⟨Nat.le_of_ble_eq_true rfl, Nat.le_of_ble_eq_true rfl⟩) (wf_preV hO hP hK hD) rfl rfl hl.1 rfl (lv_room (Nat.le_of_ble_eq_true rfl)) dX0_places_27 ⟨Nat.le_of_ble_eq_true rfl, Nat.le_of_ble_eq_true rfl⟩) (fun r_ u_ H locs hp hP hD hS => ?_)
      subst hp
      refine wr_topi (0) (rfl) ?_
      refine lv_if_eq (tgt := 35) hx hb dX0_places_30 (by decide) (fun _ => ?_) (fun q_ => absurd rfl q_)
      refine lv_iinc (v := nI (i + 1)) (lv' := [(2, .int (nI (i + 1))), (0, .ref b), (1, .ref qO)]) hx hb dX0_places_35 hl (k := 0) rfl (wn_inc i) (by decide) rfl (fun ls hl => ?_)
      refine lv_goto (tgt := 10) hx hb dX0_places_38 (by decide) ?_
      exact ih (i + 1) H locs ls (by omega) hP hD hS (lv_sub hl [0, 1, 2] rfl)
  refine loop1 ?_ (8) 0 H locs ls (by omega) hP hD hS (lv_sub hl [0, 2, 1] rfl)
  clear loop1
  intro H locs ls hP hD hS hl
  refine lv_aload_n hx hb dX0_places_41 rfl (lv_at hl 2 rfl) ?_
  refine lv_iconst (v := 4) hx hb dX0_places_42 (by decide) ?_
  refine lv_iconst (v := 3) hx hb dX0_places_43 (by decide) ?_
  refine lv_aload_n hx hb dX0_places_44 rfl (lv_at hl 1 rfl) ?_
  refine lv_iconst (v := nI 1) hx hb dX0_places_45 (by decide) ?_
  refine wr_calli0 hD hS hA (va_runS (As := [.ref b, .int (nI 1)]) (rest := [.int 3, .int 4, .ref qO]) ⟨hx, hb, hml, hown, hts⟩ (c_cell l D dI dF _ H.size b L xs (1) (by decide) hL) (va_cwS 2 hts (lw_S q96 q97 q0 q98) rfl rfl rfl (by decide +kernel) ⟨Nat.le_of_ble_eq_true rfl, Nat.le_of_ble_eq_true rfl⟩) (wr_preX hX0 hbl hbA hP hK hD hS) rfl rfl hl.1 rfl (lv_room (Nat.le_of_ble_eq_true rfl)) dX0_places_46 ⟨Nat.le_of_ble_eq_true rfl, Nat.le_of_ble_eq_true rfl⟩) (fun r_ u_ H locs hp hP hD hS => ?_)
  subst hp
  refine lv_aload_n hx hb dX0_places_49 rfl (lv_at hl 1 rfl) ?_
  refine lv_iconst (v := nI 2) hx hb dX0_places_50 (by decide) ?_
  refine wr_calli0 hD hS hA (va_runS (As := [.ref b, .int (nI 2)]) (rest := [.int (lw_cl L xs (1)), .int 3, .int 4, .ref qO]) ⟨hx, hb, hml, hown, hts⟩ (c_cell l D dI dF _ H.size b L xs (2) (by decide) hL) (va_cwS 2 hts (lw_S q96 q97 q0 q98) rfl rfl rfl (by decide +kernel) ⟨Nat.le_of_ble_eq_true rfl, Nat.le_of_ble_eq_true rfl⟩) (wr_preX hX0 hbl hbA hP hK hD hS) rfl rfl hl.1 rfl (lv_room (Nat.le_of_ble_eq_true rfl)) dX0_places_51 ⟨Nat.le_of_ble_eq_true rfl, Nat.le_of_ble_eq_true rfl⟩) (fun r_ u_ H locs hp hP hD hS => ?_)
  subst hp
  refine lv_aload_n hx hb dX0_places_54 rfl (lv_at hl 1 rfl) ?_
  refine lv_iconst (v := nI 3) hx hb dX0_places_55 (by decide) ?_
  refine wr_calli0 hD hS hA (va_runS (As := [.ref b, .int (nI 3)]) (rest := [.int (lw_cl L xs (2)), .int (lw_cl L xs (1)), .int 3, .int 4, .ref qO]) ⟨hx, hb, hml, hown, hts⟩ (c_cell l D dI dF _ H.size b L xs (3) (by decide) hL) (va_cwS 2 hts (lw_S q96 q97 q0 q98) rfl rfl rfl (by decide +kernel) ⟨Nat.le_of_ble_eq_true rfl, Nat.le_of_ble_eq_true rfl⟩) (wr_preX hX0 hbl hbA hP hK hD hS) rfl rfl hl.1 rfl (lv_room (Nat.le_of_ble_eq_true rfl)) dX0_places_56 ⟨Nat.le_of_ble_eq_true rfl, Nat.le_of_ble_eq_true rfl⟩) (fun r_ u_ H locs hp hP hD hS => ?_)
  subst hp
  refine wr_callv0 hD hS hA (va_runV (As := [.int 4, .int 3, .int (lw_cl L xs (1)), .int (lw_cl L xs (2)), .int (lw_cl L xs (3))]) (rest := []) ⟨hx, hb, hml, hown, hts⟩ (f_put l D dI dF _ H.size _ _ _ _ _ hO (by decide) (by decide) 4 0 (by decide) (by decide) 3 3 (by decide) (by decide) (lw_cl L xs (1)) (lw_cl L xs (2)) (lw_cl L xs (3))) (cwV 5 hts (lw_V q127 q128 q129 q1 q130) rfl rfl rfl (by decide +kernel) ⟨Nat.le_of_ble_eq_true rfl, Nat.le_of_ble_eq_true rfl⟩) (wf_preV hO hP hK hD) rfl rfl hl.1 rfl (lv_room (Nat.le_of_ble_eq_true rfl)) dX0_places_59 ⟨Nat.le_of_ble_eq_true rfl, Nat.le_of_ble_eq_true rfl⟩) (fun u H locs hp hP hD hS => ?_)
  have hpre : ∀ j, j < ws.length → u[j]? = ws[j]? := fun j hj => (hp.2.1 j (Or.inl (by omega))).trans (hpre j hj)
  have hlen : u.length = ws.length + 7 := hp.1.trans hlen
  have hO := hp.2.2
  obtain ⟨RO1, eRO1⟩ : ∃ z_, z_ = va_up (fun (_ _ : Nat) => (0 : Int32)) 0 (upd (upd (upd ((fun (_ _ : Nat) => (0 : Int32)) 0) (3 % 4) (lw_cl L xs (1))) ((3 % 4 + 1) % 4) (lw_cl L xs (2))) ((3 % 4 + 2) % 4) (lw_cl L xs (3))) := ⟨_, rfl⟩
  rw [← eRO1] at hO
  have o3 : RO1 0 3 = (lw_cl L xs (1)) := by rw [eRO1]; rfl
  have o0 : RO1 0 0 = (lw_cl L xs (2)) := by rw [eRO1]; rfl
  have o1 : RO1 0 1 = (lw_cl L xs (3)) := by rw [eRO1]; rfl
  have o2 : RO1 0 2 = 0 := by rw [eRO1]; rfl
  refine lv_aload_n hx hb dX0_places_62 rfl (lv_at hl 2 rfl) ?_
  refine lv_iconst (v := 0) hx hb dX0_places_63 (by decide) ?_
  refine lv_iconst (v := 3) hx hb dX0_places_64 (by decide) ?_
  refine wr_calli0 hD hS hA (va_runV (As := [.int 0, .int 3]) (rest := []) ⟨hx, hb, hml, hown, hts⟩ (f_word l D dI dF _ H.size _ _ _ _ _ hO (by decide) (by decide) _ (0) (by decide) (by decide) _ (3) (by decide) (by decide)) (cwV 2 hts (lw_V q3 q4 q5 q1 q6) rfl rfl rfl (by decide +kernel) ⟨Nat.le_of_ble_eq_true rfl, Nat.le_of_ble_eq_true rfl⟩) (wf_preV hO hP hK hD) rfl rfl hl.1 rfl (lv_room (Nat.le_of_ble_eq_true rfl)) dX0_places_65 ⟨Nat.le_of_ble_eq_true rfl, Nat.le_of_ble_eq_true rfl⟩) (fun r_ u_ H locs hp hP hD hS => ?_)
  subst hp
  refine wr_topi ((lw_cl L xs (1))) (o3) ?_
  refine lv_aload_n hx hb dX0_places_68 rfl (lv_at hl 1 rfl) ?_
  refine lv_iconst (v := nI 1) hx hb dX0_places_69 (by decide) ?_
  refine wr_calli0 hD hS hA (va_runS (As := [.ref b, .int (nI 1)]) (rest := [.int ((lw_cl L xs (1)))]) ⟨hx, hb, hml, hown, hts⟩ (c_cell l D dI dF _ H.size b L xs (1) (by decide) hL) (va_cwS 2 hts (lw_S q96 q97 q0 q98) rfl rfl rfl (by decide +kernel) ⟨Nat.le_of_ble_eq_true rfl, Nat.le_of_ble_eq_true rfl⟩) (wr_preX hX0 hbl hbA hP hK hD hS) rfl rfl hl.1 rfl (lv_room (Nat.le_of_ble_eq_true rfl)) dX0_places_70 ⟨Nat.le_of_ble_eq_true rfl, Nat.le_of_ble_eq_true rfl⟩) (fun r_ u_ H locs hp hP hD hS => ?_)
  subst hp
  refine lv_icmp_ne (tgt := 115) hx hb dX0_places_73 (by decide) (fun q_ => absurd rfl q_) (fun _ => ?_)
  refine lv_aload_n hx hb dX0_places_76 rfl (lv_at hl 2 rfl) ?_
  refine lv_iconst (v := 0) hx hb dX0_places_77 (by decide) ?_
  refine lv_iconst (v := 4) hx hb dX0_places_78 (by decide) ?_
  refine wr_calli0 hD hS hA (va_runV (As := [.int 0, .int 4]) (rest := []) ⟨hx, hb, hml, hown, hts⟩ (f_word l D dI dF _ H.size _ _ _ _ _ hO (by decide) (by decide) _ (0) (by decide) (by decide) _ (4) (by decide) (by decide)) (cwV 2 hts (lw_V q3 q4 q5 q1 q6) rfl rfl rfl (by decide +kernel) ⟨Nat.le_of_ble_eq_true rfl, Nat.le_of_ble_eq_true rfl⟩) (wf_preV hO hP hK hD) rfl rfl hl.1 rfl (lv_room (Nat.le_of_ble_eq_true rfl)) dX0_places_79 ⟨Nat.le_of_ble_eq_true rfl, Nat.le_of_ble_eq_true rfl⟩) (fun r_ u_ H locs hp hP hD hS => ?_)
  subst hp
  refine wr_topi ((lw_cl L xs (2))) (o0) ?_
  refine lv_aload_n hx hb dX0_places_82 rfl (lv_at hl 1 rfl) ?_
  refine lv_iconst (v := nI 2) hx hb dX0_places_83 (by decide) ?_
  refine wr_calli0 hD hS hA (va_runS (As := [.ref b, .int (nI 2)]) (rest := [.int ((lw_cl L xs (2)))]) ⟨hx, hb, hml, hown, hts⟩ (c_cell l D dI dF _ H.size b L xs (2) (by decide) hL) (va_cwS 2 hts (lw_S q96 q97 q0 q98) rfl rfl rfl (by decide +kernel) ⟨Nat.le_of_ble_eq_true rfl, Nat.le_of_ble_eq_true rfl⟩) (wr_preX hX0 hbl hbA hP hK hD hS) rfl rfl hl.1 rfl (lv_room (Nat.le_of_ble_eq_true rfl)) dX0_places_84 ⟨Nat.le_of_ble_eq_true rfl, Nat.le_of_ble_eq_true rfl⟩) (fun r_ u_ H locs hp hP hD hS => ?_)
  subst hp
  refine lv_icmp_ne (tgt := 115) hx hb dX0_places_87 (by decide) (fun q_ => absurd rfl q_) (fun _ => ?_)
  refine lv_aload_n hx hb dX0_places_90 rfl (lv_at hl 2 rfl) ?_
  refine lv_bipush (v := (-4)) hx hb dX0_places_91 (by decide) ?_
  refine lv_bipush (v := 17) hx hb dX0_places_93 (by decide) ?_
  refine wr_calli0 hD hS hA (va_runV (As := [.int (-4), .int 17]) (rest := []) ⟨hx, hb, hml, hown, hts⟩ (f_word l D dI dF _ H.size _ _ _ _ _ hO (by decide) (by decide) _ (0) (by decide) (by decide) _ (1) (by decide) (by decide)) (cwV 2 hts (lw_V q3 q4 q5 q1 q6) rfl rfl rfl (by decide +kernel) ⟨Nat.le_of_ble_eq_true rfl, Nat.le_of_ble_eq_true rfl⟩) (wf_preV hO hP hK hD) rfl rfl hl.1 rfl (lv_room (Nat.le_of_ble_eq_true rfl)) dX0_places_95 ⟨Nat.le_of_ble_eq_true rfl, Nat.le_of_ble_eq_true rfl⟩) (fun r_ u_ H locs hp hP hD hS => ?_)
  subst hp
  refine wr_topi ((lw_cl L xs (3))) (o1) ?_
  refine lv_aload_n hx hb dX0_places_98 rfl (lv_at hl 1 rfl) ?_
  refine lv_iconst (v := nI 3) hx hb dX0_places_99 (by decide) ?_
  refine wr_calli0 hD hS hA (va_runS (As := [.ref b, .int (nI 3)]) (rest := [.int ((lw_cl L xs (3)))]) ⟨hx, hb, hml, hown, hts⟩ (c_cell l D dI dF _ H.size b L xs (3) (by decide) hL) (va_cwS 2 hts (lw_S q96 q97 q0 q98) rfl rfl rfl (by decide +kernel) ⟨Nat.le_of_ble_eq_true rfl, Nat.le_of_ble_eq_true rfl⟩) (wr_preX hX0 hbl hbA hP hK hD hS) rfl rfl hl.1 rfl (lv_room (Nat.le_of_ble_eq_true rfl)) dX0_places_100 ⟨Nat.le_of_ble_eq_true rfl, Nat.le_of_ble_eq_true rfl⟩) (fun r_ u_ H locs hp hP hD hS => ?_)
  subst hp
  refine lv_icmp_ne (tgt := 115) hx hb dX0_places_103 (by decide) (fun q_ => absurd rfl q_) (fun _ => ?_)
  refine lv_aload_n hx hb dX0_places_106 rfl (lv_at hl 2 rfl) ?_
  refine lv_iconst (v := 0) hx hb dX0_places_107 (by decide) ?_
  refine lv_iconst (v := 2) hx hb dX0_places_108 (by decide) ?_
  refine wr_calli0 hD hS hA (va_runV (As := [.int 0, .int 2]) (rest := []) ⟨hx, hb, hml, hown, hts⟩ (f_word l D dI dF _ H.size _ _ _ _ _ hO (by decide) (by decide) _ (0) (by decide) (by decide) _ (2) (by decide) (by decide)) (cwV 2 hts (lw_V q3 q4 q5 q1 q6) rfl rfl rfl (by decide +kernel) ⟨Nat.le_of_ble_eq_true rfl, Nat.le_of_ble_eq_true rfl⟩) (wf_preV hO hP hK hD) rfl rfl hl.1 rfl (lv_room (Nat.le_of_ble_eq_true rfl)) dX0_places_109 ⟨Nat.le_of_ble_eq_true rfl, Nat.le_of_ble_eq_true rfl⟩) (fun r_ u_ H locs hp hP hD hS => ?_)
  subst hp
  refine wr_topi (0) (o2) ?_
  refine lv_if_eq (tgt := 117) hx hb dX0_places_112 (by decide) (fun _ => ?_) (fun q_ => absurd rfl q_)
  refine lv_aload_n hx hb dX0_places_117 rfl (lv_at hl 1 rfl) ?_
  refine wr_callr hD hS hA (va_runS (As := [.ref b]) (rest := []) ⟨hx, hb, hml, hown, hts⟩ (c_three l D dI dF _ H.size b L xs hL n hn) (va_cwS 1 hts (lw_S q99 q100 q0 q101) rfl rfl rfl (by decide +kernel) ⟨Nat.le_of_ble_eq_true rfl, Nat.le_of_ble_eq_true rfl⟩) (wr_preX hX0 hbl hbA hP hK hD hS) rfl rfl hl.1 rfl (lv_room (Nat.le_of_ble_eq_true rfl)) dX0_places_118 ⟨Nat.le_of_ble_eq_true rfl, Nat.le_of_ble_eq_true rfl⟩) (fun u qX H locs hp hP hD hS => ?_)
  obtain ⟨hl_, hp_, RX, wX, hX, hRX⟩ := hp
  rw [hlen] at hl_ hX
  have hpre : ∀ j, j < ws.length → u[j]? = ws[j]? := fun j hj => (hp_ j (by omega)).trans (hpre j hj)
  have hlen : u.length = ws.length + 14 := by omega
  refine lv_astore_n (lv' := [(1, .ref qX), (2, .int (nI 8)), (0, .ref b)]) hx hb dX0_places_121 rfl hl (by decide) rfl (fun ls hl => ?_)
  refine lv_aload_n hx hb dX0_places_122 rfl (lv_at hl 2 rfl) ?_
  refine wr_callr hD hS hA (va_runS (As := [.ref b]) (rest := []) ⟨hx, hb, hml, hown, hts⟩ (c_three l D dI dF _ H.size b L xs hL n hn) (va_cwS 1 hts (lw_S q99 q100 q0 q101) rfl rfl rfl (by decide +kernel) ⟨Nat.le_of_ble_eq_true rfl, Nat.le_of_ble_eq_true rfl⟩) (wr_preX hX0 hbl hbA hP hK hD hS) rfl rfl hl.1 rfl (lv_room (Nat.le_of_ble_eq_true rfl)) dX0_places_123 ⟨Nat.le_of_ble_eq_true rfl, Nat.le_of_ble_eq_true rfl⟩) (fun u qY H locs hp hP hD hS => ?_)
  obtain ⟨hl_, hp_, RY, wY, hY, hRY⟩ := hp
  rw [hlen] at hl_ hY
  have hX := wf_mono hX (fun j _ h8 => hp_ j (by omega))
  have hpre : ∀ j, j < ws.length → u[j]? = ws[j]? := fun j hj => (hp_ j (by omega)).trans (hpre j hj)
  have hlen : u.length = ws.length + 21 := by omega
  refine lv_astore_n (lv' := [(2, .ref qY), (1, .ref qX), (0, .ref b)]) hx hb dX0_places_126 rfl hl (by decide) rfl (fun ls hl => ?_)
  refine W.widen (k := 33) (n := 293) (Nat.le_of_ble_eq_true rfl) (Nat.le_of_ble_eq_true rfl) ?_
  refine lv_iconst (v := nI 1) hx hb dX0_places_127 (by decide) ?_
  refine lv_aload_n hx hb dX0_places_128 rfl (lv_at hl 2 rfl) ?_
  refine lv_iconst (v := nI 0) hx hb dX0_places_129 (by decide) ?_
  refine wr_calli0 hD hS hA (va_runS (As := [.ref b, .int (nI 0)]) (rest := [.int (nI 1)]) ⟨hx, hb, hml, hown, hts⟩ (c_cell l D dI dF _ H.size b L xs (0) (by decide) hL) (va_cwS 2 hts (lw_S q96 q97 q0 q98) rfl rfl rfl (by decide +kernel) ⟨Nat.le_of_ble_eq_true rfl, Nat.le_of_ble_eq_true rfl⟩) (wr_preX hX0 hbl hbA hP hK hD hS) rfl rfl hl.1 rfl (lv_room (Nat.le_of_ble_eq_true rfl)) dX0_places_130 ⟨Nat.le_of_ble_eq_true rfl, Nat.le_of_ble_eq_true rfl⟩) (fun r_ u_ H locs hp hP hD hS => ?_)
  subst hp
  refine lv_bipush (v := 15) hx hb dX0_places_133 (by decide) ?_
  refine lv_iand hx hb dX0_places_135 ?_
  refine wr_topi (nI (wn_w (lw_cl L xs 0) % 16)) (wf_and15 _) ?_
  refine lv_iadd hx hb dX0_places_136 ?_
  refine wr_topi (nI n) (by rw [nI_add, hn]; rfl) ?_
  refine lv_istore_n (lv' := [(3, .int (nI n)), (2, .ref qY), (1, .ref qX), (0, .ref b)]) hx hb dX0_places_137 rfl hl (by decide) rfl (fun ls hl => ?_)
  have x0 : ∀ j, j < n → RX 0 j = RY 0 j := fun j hj => (hRX 0 j (by decide) hj).trans (hRY 0 j (by decide) hj).symm
  have x1 : ∀ j, j < n → RX 1 j = RY 1 j := fun j hj => (hRX 1 j (by decide) hj).trans (hRY 1 j (by decide) hj).symm
  have x2 : ∀ j, j < n → RX 2 j = RY 2 j := fun j hj => (hRX 2 j (by decide) hj).trans (hRY 2 j (by decide) hj).symm
  refine lv_aload_n hx hb dX0_places_138 rfl (lv_at hl 2 rfl) ?_
  refine lv_iconst (v := 0) hx hb dX0_places_139 (by decide) ?_
  refine lv_iconst (v := 0) hx hb dX0_places_140 (by decide) ?_
  refine lv_iconst (v := 1) hx hb dX0_places_141 (by decide) ?_
  refine wr_calli0 hD hS hA (va_runV (As := [.int 0, .int 0, .int 1]) (rest := []) ⟨hx, hb, hml, hown, hts⟩ (f_add l D dI dF _ H.size _ _ _ _ _ hX hn1 hn2 0 0 (by decide) (by decide) 0 0 (by decide) (by decide) 1 1 (by decide) (by decide)) (cwV 3 hts (lw_V q7 q8 q9 q1 q10) rfl rfl rfl (by decide +kernel) ⟨Nat.le_of_ble_eq_true rfl, Nat.le_of_ble_eq_true rfl⟩) (wf_preV hX hP hK hD) rfl rfl hl.1 rfl (lv_room (Nat.le_of_ble_eq_true rfl)) dX0_places_142 ⟨Nat.le_of_ble_eq_true rfl, Nat.le_of_ble_eq_true rfl⟩) (fun r_ u H locs hp hP hD hS => ?_)
  obtain ⟨hr_, hp⟩ := hp
  have hY := wf_keep hp hY (by omega)
  have hpre : ∀ j, j < ws.length → u[j]? = ws[j]? := fun j hj => (hp.2.1 j (Or.inl (by omega))).trans (hpre j hj)
  have hlen : u.length = ws.length + 21 := hp.1.trans hlen
  have hX := hp.2.2
  obtain ⟨RX1, eRX1⟩ : ∃ z_, z_ = va_up RX 0 (wr_f (wn_cw (wn_gA (RX 0) (RX 1))) (RX 0) n) := ⟨_, rfl⟩
  rw [← eRX1] at hX
  refine lv_pop hx hb dX0_places_145 rfl ?_
  refine lv_aload_n hx hb dX0_places_146 rfl (lv_at hl 1 rfl) ?_
  refine lv_iconst (v := 3) hx hb dX0_places_147 (by decide) ?_
  refine lv_iconst (v := 0) hx hb dX0_places_148 (by decide) ?_
  refine lv_iconst (v := 1) hx hb dX0_places_149 (by decide) ?_
  refine wr_calli0 hD hS hA (va_runV (As := [.int 3, .int 0, .int 1]) (rest := []) ⟨hx, hb, hml, hown, hts⟩ (f_add l D dI dF _ H.size _ _ _ _ _ hY hn1 hn2 3 3 (by decide) (by decide) 0 0 (by decide) (by decide) 1 1 (by decide) (by decide)) (cwV 3 hts (lw_V q7 q8 q9 q1 q10) rfl rfl rfl (by decide +kernel) ⟨Nat.le_of_ble_eq_true rfl, Nat.le_of_ble_eq_true rfl⟩) (wf_preV hY hP hK hD) rfl rfl hl.1 rfl (lv_room (Nat.le_of_ble_eq_true rfl)) dX0_places_150 ⟨Nat.le_of_ble_eq_true rfl, Nat.le_of_ble_eq_true rfl⟩) (fun r_ u H locs hp hP hD hS => ?_)
  obtain ⟨hr_, hp⟩ := hp
  have hX := wf_keep hp hX (by omega)
  have hpre : ∀ j, j < ws.length → u[j]? = ws[j]? := fun j hj => (hp.2.1 j (Or.inl (by omega))).trans (hpre j hj)
  have hlen : u.length = ws.length + 21 := hp.1.trans hlen
  have hY := hp.2.2
  obtain ⟨RY1, eRY1⟩ : ∃ z_, z_ = va_up RY 3 (wr_f (wn_cw (wn_gA (RY 0) (RY 1))) (RY 3) n) := ⟨_, rfl⟩
  rw [← eRY1] at hY
  refine lv_pop hx hb dX0_places_153 rfl ?_
  have s1 : ∀ i, i < n → RX1 0 i = RY1 3 i := fun i hi => by rw [eRX1, eRY1]; simp only [va_up, if_pos]; rw [wr_fl _ _ hi, wr_fl _ _ hi]; exact wn_cw_congr (lw_gA_congr x0 x1) hi
  refine lv_aload_n hx hb dX0_places_154 rfl (lv_at hl 2 rfl) ?_
  refine lv_iconst (v := 0) hx hb dX0_places_155 (by decide) ?_
  refine lv_aload_n hx hb dX0_places_156 rfl (lv_at hl 1 rfl) ?_
  refine lv_iconst (v := 3) hx hb dX0_places_157 (by decide) ?_
  refine lv_iload_n hx hb dX0_places_158 rfl (lv_at hl 0 rfl) ?_
  refine wr_calli0 hD hS hA (va_runS (As := [.ref qX, .int 0, .ref qY, .int 3, .int (nI n)]) (rest := []) ⟨hx, hb, hml, hown, hts⟩ (c_same l D dI dF _ H.size _ _ _ _ n _ _ _ _ hX hY hn1 hn2 0 0 (by decide) (by decide) 3 3 (by decide) (by decide) (s1)) (va_cwS 5 hts (lw_S q131 q132 q0 q133) rfl rfl rfl (by decide +kernel) ⟨Nat.le_of_ble_eq_true rfl, Nat.le_of_ble_eq_true rfl⟩) (wr_preS hP hK hD) rfl rfl hl.1 rfl (lv_room (Nat.le_of_ble_eq_true rfl)) dX0_places_159 ⟨Nat.le_of_ble_eq_true rfl, Nat.le_of_ble_eq_true rfl⟩) (fun r_ u_ H locs hp hP hD hS => ?_)
  subst hp
  refine lv_if_ne (tgt := 167) hx hb dX0_places_162 (by decide) (fun _ => ?_) (fun q_ => absurd q_ (by decide))
  have x11 : RX1 1 = RX 1 := by rw [eRX1]; rfl
  have x12 : RX1 2 = RX 2 := by rw [eRX1]; rfl
  have y11 : RY1 1 = RY 1 := by rw [eRY1]; rfl
  have y12 : RY1 2 = RY 2 := by rw [eRY1]; rfl
  refine lv_aload_n hx hb dX0_places_167 rfl (lv_at hl 2 rfl) ?_
  refine lv_iconst (v := 2) hx hb dX0_places_168 (by decide) ?_
  refine lv_iconst (v := 1) hx hb dX0_places_169 (by decide) ?_
  refine lv_iconst (v := 2) hx hb dX0_places_170 (by decide) ?_
  refine wr_calli0 hD hS hA (va_runV (As := [.int 2, .int 1, .int 2]) (rest := []) ⟨hx, hb, hml, hown, hts⟩ (f_subtract l D dI dF _ H.size _ _ _ _ _ hX hn1 hn2 2 2 (by decide) (by decide) 1 1 (by decide) (by decide) 2 2 (by decide) (by decide)) (cwV 3 hts (lw_V q15 q16 q17 q1 q18) rfl rfl rfl (by decide +kernel) ⟨Nat.le_of_ble_eq_true rfl, Nat.le_of_ble_eq_true rfl⟩) (wf_preV hX hP hK hD) rfl rfl hl.1 rfl (lv_room (Nat.le_of_ble_eq_true rfl)) dX0_places_171 ⟨Nat.le_of_ble_eq_true rfl, Nat.le_of_ble_eq_true rfl⟩) (fun r_ u H locs hp hP hD hS => ?_)
  obtain ⟨hr_, hp⟩ := hp
  have hY := wf_keep hp hY (by omega)
  have hpre : ∀ j, j < ws.length → u[j]? = ws[j]? := fun j hj => (hp.2.1 j (Or.inl (by omega))).trans (hpre j hj)
  have hlen : u.length = ws.length + 21 := hp.1.trans hlen
  have hX := hp.2.2
  obtain ⟨RX2, eRX2⟩ : ∃ z_, z_ = va_up RX1 2 (wr_f (wn_bw (RX1 1) (RX1 2)) (RX1 2) n) := ⟨_, rfl⟩
  rw [← eRX2] at hX
  refine lv_pop hx hb dX0_places_174 rfl ?_
  refine lv_aload_n hx hb dX0_places_175 rfl (lv_at hl 1 rfl) ?_
  refine lv_iconst (v := 3) hx hb dX0_places_176 (by decide) ?_
  refine lv_iconst (v := 5) hx hb dX0_places_177 (by decide) ?_
  refine lv_bipush (v := 6) hx hb dX0_places_178 (by decide) ?_
  refine wr_calli0 hD hS hA (va_runV (As := [.int 3, .int 5, .int 6]) (rest := []) ⟨hx, hb, hml, hown, hts⟩ (f_subtract l D dI dF _ H.size _ _ _ _ _ hY hn1 hn2 3 3 (by decide) (by decide) 5 1 (by decide) (by decide) 6 2 (by decide) (by decide)) (cwV 3 hts (lw_V q15 q16 q17 q1 q18) rfl rfl rfl (by decide +kernel) ⟨Nat.le_of_ble_eq_true rfl, Nat.le_of_ble_eq_true rfl⟩) (wf_preV hY hP hK hD) rfl rfl hl.1 rfl (lv_room (Nat.le_of_ble_eq_true rfl)) dX0_places_180 ⟨Nat.le_of_ble_eq_true rfl, Nat.le_of_ble_eq_true rfl⟩) (fun r_ u H locs hp hP hD hS => ?_)
  obtain ⟨hr_, hp⟩ := hp
  have hX := wf_keep hp hX (by omega)
  have hpre : ∀ j, j < ws.length → u[j]? = ws[j]? := fun j hj => (hp.2.1 j (Or.inl (by omega))).trans (hpre j hj)
  have hlen : u.length = ws.length + 21 := hp.1.trans hlen
  have hY := hp.2.2
  obtain ⟨RY2, eRY2⟩ : ∃ z_, z_ = va_up RY1 3 (wr_f (wn_bw (RY1 1) (RY1 2)) (RY1 3) n) := ⟨_, rfl⟩
  rw [← eRY2] at hY
  refine lv_pop hx hb dX0_places_183 rfl ?_
  have s2 : ∀ i, i < n → RX2 2 i = RY2 3 i := fun i hi => by rw [eRX2, eRY2]; simp only [va_up, if_pos]; rw [wr_fl _ _ hi, wr_fl _ _ hi, x11, x12, y11, y12]; exact lw_bww_congr x1 x2 hi
  refine lv_aload_n hx hb dX0_places_184 rfl (lv_at hl 2 rfl) ?_
  refine lv_iconst (v := 2) hx hb dX0_places_185 (by decide) ?_
  refine lv_aload_n hx hb dX0_places_186 rfl (lv_at hl 1 rfl) ?_
  refine lv_iconst (v := 3) hx hb dX0_places_187 (by decide) ?_
  refine lv_iload_n hx hb dX0_places_188 rfl (lv_at hl 0 rfl) ?_
  refine wr_calli0 hD hS hA (va_runS (As := [.ref qX, .int 2, .ref qY, .int 3, .int (nI n)]) (rest := []) ⟨hx, hb, hml, hown, hts⟩ (c_same l D dI dF _ H.size _ _ _ _ n _ _ _ _ hX hY hn1 hn2 2 2 (by decide) (by decide) 3 3 (by decide) (by decide) (s2)) (va_cwS 5 hts (lw_S q131 q132 q0 q133) rfl rfl rfl (by decide +kernel) ⟨Nat.le_of_ble_eq_true rfl, Nat.le_of_ble_eq_true rfl⟩) (wr_preS hP hK hD) rfl rfl hl.1 rfl (lv_room (Nat.le_of_ble_eq_true rfl)) dX0_places_189 ⟨Nat.le_of_ble_eq_true rfl, Nat.le_of_ble_eq_true rfl⟩) (fun r_ u_ H locs hp hP hD hS => ?_)
  subst hp
  refine lv_if_eq (tgt := 204) hx hb dX0_places_192 (by decide) (fun q_ => absurd q_ (by decide)) (fun _ => ?_)
  refine lv_aload_n hx hb dX0_places_195 rfl (lv_at hl 2 rfl) ?_
  refine lv_iconst (v := 1) hx hb dX0_places_196 (by decide) ?_
  refine lv_iconst (v := 5) hx hb dX0_places_197 (by decide) ?_
  refine wr_calli0 hD hS hA (va_runV (As := [.int 1, .int 5]) (rest := []) ⟨hx, hb, hml, hown, hts⟩ (f_atLeast l D dI dF _ H.size _ _ _ _ _ hX hn1 hn2 1 1 (by decide) (by decide) 5 1 (by decide) (by decide)) (cwV 2 hts (lw_V q84 q85 q86 q1 q87) rfl rfl rfl (by decide +kernel) ⟨Nat.le_of_ble_eq_true rfl, Nat.le_of_ble_eq_true rfl⟩) (wf_preV hX hP hK hD) rfl rfl hl.1 rfl (lv_room (Nat.le_of_ble_eq_true rfl)) dX0_places_198 ⟨Nat.le_of_ble_eq_true rfl, Nat.le_of_ble_eq_true rfl⟩) (fun r_ u_ H locs hp hP hD hS => ?_)
  have hr_ := hp.1 (Nat.le_refl _)
  subst hr_
  refine lv_if_ne (tgt := 206) hx hb dX0_places_201 (by decide) (fun _ => ?_) (fun q_ => absurd q_ (by decide))
  refine lv_aload_n hx hb dX0_places_206 rfl (lv_at hl 2 rfl) ?_
  refine lv_iconst (v := 0) hx hb dX0_places_207 (by decide) ?_
  refine lv_iconst (v := 1) hx hb dX0_places_208 (by decide) ?_
  refine wr_callv0 hD hS hA (va_runV (As := [.int 0, .int 1]) (rest := []) ⟨hx, hb, hml, hown, hts⟩ (f_multiply l D dI dF _ H.size _ _ _ _ _ hX hn1 hn2 0 0 (by decide) (by decide) 1 1 (by decide) (by decide)) (cwV 2 hts (lw_V q22 q23 q24 q1 q25) rfl rfl rfl (by decide +kernel) ⟨Nat.le_of_ble_eq_true rfl, Nat.le_of_ble_eq_true rfl⟩) (wf_preV hX hP hK hD) rfl rfl hl.1 rfl (lv_room (Nat.le_of_ble_eq_true rfl)) dX0_places_209 ⟨Nat.le_of_ble_eq_true rfl, Nat.le_of_ble_eq_true rfl⟩) (fun u H locs hp hP hD hS => ?_)
  obtain ⟨wX1, hwX1, hp⟩ := hp
  have hpre : ∀ j, j < ws.length → u[j]? = ws[j]? := fun j hj => (hp.2.1 j (Or.inl (by omega))).trans (hpre j hj)
  have hlen : u.length = ws.length + 21 := hp.1.trans hlen
  have hX := hp.2.2
  refine lv_aload_n hx hb dX0_places_212 rfl (lv_at hl 2 rfl) ?_
  refine lv_bipush (v := 32) hx hb dX0_places_213 (by decide) ?_
  refine wr_calli0 hD hS hA (va_runV (As := [.int 32]) (rest := []) ⟨hx, hb, hml, hown, hts⟩ (f_wide l D dI dF _ H.size _ _ _ _ _ hX (hn1) (hn2) _ (0) (by decide) (by decide)) (cwV 1 hts (lw_V q92 q93 q94 q1 q95) rfl rfl rfl (by decide +kernel) ⟨Nat.le_of_ble_eq_true rfl, Nat.le_of_ble_eq_true rfl⟩) (wf_preV hX hP hK hD) rfl rfl hl.1 rfl (lv_room (Nat.le_of_ble_eq_true rfl)) dX0_places_215 ⟨Nat.le_of_ble_eq_true rfl, Nat.le_of_ble_eq_true rfl⟩) (fun r_ u_ H locs hp hP hD hS => ?_)
  subst hp
  refine lv_aload_n hx hb dX0_places_218 rfl (lv_at hl 2 rfl) ?_
  refine lv_iconst (v := 0) hx hb dX0_places_219 (by decide) ?_
  refine wr_calli0 hD hS hA (va_runV (As := [.int 0]) (rest := [.int (wX1 ((0) % (n + n)))]) ⟨hx, hb, hml, hown, hts⟩ (f_wide l D dI dF _ H.size _ _ _ _ _ hX (hn1) (hn2) _ (0) (by decide) (by decide)) (cwV 1 hts (lw_V q92 q93 q94 q1 q95) rfl rfl rfl (by decide +kernel) ⟨Nat.le_of_ble_eq_true rfl, Nat.le_of_ble_eq_true rfl⟩) (wf_preV hX hP hK hD) rfl rfl hl.1 rfl (lv_room (Nat.le_of_ble_eq_true rfl)) dX0_places_220 ⟨Nat.le_of_ble_eq_true rfl, Nat.le_of_ble_eq_true rfl⟩) (fun r_ u_ H locs hp hP hD hS => ?_)
  subst hp
  refine lv_icmp_ne (tgt := 242) hx hb dX0_places_223 (by decide) (fun q_ => absurd rfl q_) (fun _ => ?_)
  refine lv_aload_n hx hb dX0_places_226 rfl (lv_at hl 2 rfl) ?_
  refine lv_iconst (v := 1) hx hb dX0_places_227 (by decide) ?_
  refine lv_bipush (v := (-16)) hx hb dX0_places_228 (by decide) ?_
  refine wr_calli0 hD hS hA (va_runV (As := [.int 1, .int (-16)]) (rest := []) ⟨hx, hb, hml, hown, hts⟩ (f_word l D dI dF _ H.size _ _ _ _ _ hX (hn1) (hn2) _ (1) (by decide) (by decide) _ (0) (by decide) (by decide)) (cwV 2 hts (lw_V q3 q4 q5 q1 q6) rfl rfl rfl (by decide +kernel) ⟨Nat.le_of_ble_eq_true rfl, Nat.le_of_ble_eq_true rfl⟩) (wf_preV hX hP hK hD) rfl rfl hl.1 rfl (lv_room (Nat.le_of_ble_eq_true rfl)) dX0_places_230 ⟨Nat.le_of_ble_eq_true rfl, Nat.le_of_ble_eq_true rfl⟩) (fun r_ u_ H locs hp hP hD hS => ?_)
  subst hp
  refine lv_aload_n hx hb dX0_places_233 rfl (lv_at hl 2 rfl) ?_
  refine lv_iconst (v := 1) hx hb dX0_places_234 (by decide) ?_
  refine lv_iconst (v := 0) hx hb dX0_places_235 (by decide) ?_
  refine wr_calli0 hD hS hA (va_runV (As := [.int 1, .int 0]) (rest := [.int (RX2 (1) ((0) % n))]) ⟨hx, hb, hml, hown, hts⟩ (f_word l D dI dF _ H.size _ _ _ _ _ hX (hn1) (hn2) _ (1) (by decide) (by decide) _ (0) (by decide) (by decide)) (cwV 2 hts (lw_V q3 q4 q5 q1 q6) rfl rfl rfl (by decide +kernel) ⟨Nat.le_of_ble_eq_true rfl, Nat.le_of_ble_eq_true rfl⟩) (wf_preV hX hP hK hD) rfl rfl hl.1 rfl (lv_room (Nat.le_of_ble_eq_true rfl)) dX0_places_236 ⟨Nat.le_of_ble_eq_true rfl, Nat.le_of_ble_eq_true rfl⟩) (fun r_ u_ H locs hp hP hD hS => ?_)
  subst hp
  refine lv_icmp_eq (tgt := 244) hx hb dX0_places_239 (by decide) (fun _ => ?_) (fun q_ => absurd rfl q_)
  refine lv_aload_n hx hb dX0_places_244 rfl (lv_at hl 2 rfl) ?_
  refine lv_aload_n hx hb dX0_places_245 rfl (lv_at hl 3 rfl) ?_
  refine lv_iconst (v := nI 0) hx hb dX0_places_246 (by decide) ?_
  refine wr_calli0 hD hS hA (va_runS (As := [.ref b, .int (nI 0)]) (rest := [.ref qX]) ⟨hx, hb, hml, hown, hts⟩ (c_cell l D dI dF _ H.size b L xs (0) (by decide) hL) (va_cwS 2 hts (lw_S q96 q97 q0 q98) rfl rfl rfl (by decide +kernel) ⟨Nat.le_of_ble_eq_true rfl, Nat.le_of_ble_eq_true rfl⟩) (wr_preX hX0 hbl hbA hP hK hD hS) rfl rfl hl.1 rfl (lv_room (Nat.le_of_ble_eq_true rfl)) dX0_places_247 ⟨Nat.le_of_ble_eq_true rfl, Nat.le_of_ble_eq_true rfl⟩) (fun r_ u_ H locs hp hP hD hS => ?_)
  subst hp
  refine lv_ldc (v := (-2147483648)) hx hb hown (hts _ q157) dX0_places_250 ?_
  refine lv_ior hx hb dX0_places_252 ?_
  refine wr_callv hD hS hA (va_runV (As := [.int ((lw_cl L xs (0)) ||| (-2147483648))]) (rest := []) ⟨hx, hb, hml, hown, hts⟩ (f_width l D dI dF _ H.size _ _ _ _ _ hX (lw_cl L xs (0) ||| (-2147483648)) n (by rw [lw_orM]; exact hn)) (cwV 1 hts (lw_V q123 q124 q125 q1 q126) rfl rfl rfl (by decide +kernel) ⟨Nat.le_of_ble_eq_true rfl, Nat.le_of_ble_eq_true rfl⟩) (wf_preV hX hP hK hD) rfl rfl hl.1 rfl (lv_room (Nat.le_of_ble_eq_true rfl)) dX0_places_253 ⟨Nat.le_of_ble_eq_true rfl, Nat.le_of_ble_eq_true rfl⟩) (fun u H locs hp hP hD hS => ?_)
  have hpre : ∀ j, j < ws.length → u[j]? = ws[j]? := fun j hj => (hp.2.1 j (Or.inl (by omega))).trans (hpre j hj)
  have hlen : u.length = ws.length + 21 := hp.1.trans hlen
  have hX := hp.2.2
  refine W.widen (k := 39) (n := 393) (Nat.le_of_ble_eq_true rfl) (Nat.le_of_ble_eq_true rfl) ?_
  refine lv_iconst (v := nI 0) hx hb dX0_places_256 (by decide) ?_
  refine lv_istore (lv' := [(4, .int (nI 0)), (3, .int (nI n)), (2, .ref qY), (1, .ref qX), (0, .ref b)]) hx hb dX0_places_257 hl (by decide) rfl (fun ls hl => ?_)
  have loop2 : (∀ (H : Heap) (locs : List Loc) (ls : Array Slot), va_P D vwCl u H → va_D A u → va_S A s.heap H locs → lv_has ls 5 [(4, .int (nI (n + n))), (0, .ref b), (1, .ref qX), (3, .int (nI n))] → W p l e (headSpec (ws_ yX0_places cX0_places 5 (some .boolean)) lw_rP).room s m (([.ref b] : List Value).toArray) below meth c H locs 39 393 (MQ below (va_Qi (fun (r : Int32) (_ : Unit) => r = 1) (fun _ t => wr_B D A ws t) A) (([.ref b] : List Value).toArray) s 39 393 A) (F0 m 295 ls [])) → ∀ (k i : Nat) (H : Heap) (locs : List Loc) (ls : Array Slot), i + k = (n + n) → va_P D vwCl u H → va_D A u → va_S A s.heap H locs → lv_has ls 5 [(4, .int (nI i)), (0, .ref b), (1, .ref qX), (3, .int (nI n))] → W p l e (headSpec (ws_ yX0_places cX0_places 5 (some .boolean)) lw_rP).room s m (([.ref b] : List Value).toArray) below meth c H locs 39 393 (MQ below (va_Qi (fun (r : Int32) (_ : Unit) => r = 1) (fun _ t => wr_B D A ws t) A) (([.ref b] : List Value).toArray) s 39 393 A) (F0 m 259 ls []) := by
    intro kx k
    induction k with
    | zero =>
      intro i H locs ls hik hP hD hS hl
      have hin : i = (n + n) := by omega
      rw [hin] at hl
      refine lv_iload hx hb dX0_places_259 (lv_at hl 0 rfl) ?_
      refine lv_iconst (v := nI 2) hx hb dX0_places_261 (by decide) ?_
      refine lv_iload_n hx hb dX0_places_262 rfl (lv_at hl 3 rfl) ?_
      refine lv_imul hx hb dX0_places_263 ?_
      refine wr_topi (nI (n + n)) (by rw [pk_mul, show 2 * n = n + n by omega]) ?_
      refine lv_icmp_ge (tgt := 295) hx hb dX0_places_264 (by decide) (fun _ => ?_) (fun q_ => absurd (nI_le (Nat.le_refl _) (by omega)) q_)
      exact kx H locs ls hP hD hS (lv_sub hl [0, 1, 2, 3] rfl)
    | succ k ih =>
      intro i H locs ls hik hP hD hS hl
      have hi : i < (n + n) := by omega
      refine lv_iload hx hb dX0_places_259 (lv_at hl 0 rfl) ?_
      refine lv_iconst (v := nI 2) hx hb dX0_places_261 (by decide) ?_
      refine lv_iload_n hx hb dX0_places_262 rfl (lv_at hl 3 rfl) ?_
      refine lv_imul hx hb dX0_places_263 ?_
      refine wr_topi (nI (n + n)) (by rw [pk_mul, show 2 * n = n + n by omega]) ?_
      refine lv_icmp_ge (tgt := 295) hx hb dX0_places_264 (by decide) (fun q_ => absurd q_ (nI_ge hi (by omega))) (fun _ => ?_)
      refine lv_aload_n hx hb dX0_places_267 rfl (lv_at hl 2 rfl) ?_
      refine lv_iload hx hb dX0_places_268 (lv_at hl 0 rfl) ?_
      refine wr_calli0 hD hS hA (va_runV (As := [.int (nI i)]) (rest := []) ⟨hx, hb, hml, hown, hts⟩ (f_wideN l D dI dF _ H.size _ _ _ _ _ hX hn1 hn2 (i) (hi)) (cwV 1 hts (lw_V q92 q93 q94 q1 q95) rfl rfl rfl (by decide +kernel) ⟨Nat.le_of_ble_eq_true rfl, Nat.le_of_ble_eq_true rfl⟩) (wf_preV hX hP hK hD) rfl rfl hl.1 rfl (lv_room (Nat.le_of_ble_eq_true rfl)) dX0_places_270 ⟨Nat.le_of_ble_eq_true rfl, Nat.le_of_ble_eq_true rfl⟩) (fun r_ u_ H locs hp hP hD hS => ?_)
      subst hp
      refine wr_topi (0) (rfl) ?_
      refine lv_if_ne (tgt := 287) hx hb dX0_places_273 (by decide) (fun q_ => absurd rfl q_) (fun _ => ?_)
      refine lv_aload_n hx hb dX0_places_276 rfl (lv_at hl 2 rfl) ?_
      refine lv_iload hx hb dX0_places_277 (lv_at hl 0 rfl) ?_
      refine lv_iload hx hb dX0_places_279 (lv_at hl 0 rfl) ?_
      refine wr_calli0 hD hS hA (va_runV (As := [.int (nI i), .int (nI i)]) (rest := []) ⟨hx, hb, hml, hown, hts⟩ (f_word l D dI dF _ H.size _ _ _ _ _ hX (hn1) (hn2) _ (i % 4) (by omega) (pk_andN (by omega) 2 (by decide)) _ (i % 16) (by omega) (pk_andN (by omega) 4 (by decide))) (cwV 2 hts (lw_V q3 q4 q5 q1 q6) rfl rfl rfl (by decide +kernel) ⟨Nat.le_of_ble_eq_true rfl, Nat.le_of_ble_eq_true rfl⟩) (wf_preV hX hP hK hD) rfl rfl hl.1 rfl (lv_room (Nat.le_of_ble_eq_true rfl)) dX0_places_281 ⟨Nat.le_of_ble_eq_true rfl, Nat.le_of_ble_eq_true rfl⟩) (fun r_ u_ H locs hp hP hD hS => ?_)
      subst hp
      refine wr_topi (0) (rfl) ?_
      refine lv_if_eq (tgt := 289) hx hb dX0_places_284 (by decide) (fun _ => ?_) (fun q_ => absurd rfl q_)
      refine lv_iinc (v := nI (i + 1)) (lv' := [(4, .int (nI (i + 1))), (0, .ref b), (1, .ref qX), (3, .int (nI n))]) hx hb dX0_places_289 hl (k := 0) rfl (wn_inc i) (by decide) rfl (fun ls hl => ?_)
      refine lv_goto (tgt := 259) hx hb dX0_places_292 (by decide) ?_
      exact ih (i + 1) H locs ls (by omega) hP hD hS (lv_sub hl [0, 1, 2, 3] rfl)
  refine loop2 ?_ ((n + n)) 0 H locs ls (by omega) hP hD hS (lv_sub hl [0, 4, 3, 1] rfl)
  clear loop2
  intro H locs ls hP hD hS hl
  refine lv_iconst (v := 1) hx hb dX0_places_295 (by decide) ?_
  exact wr_zret () hx hb hr hlocks rfl (lw_preP hpre hP) (lw_preD hpre hD) hS (rfl) (Nat.le_of_ble_eq_true rfl) (Nat.le_of_ble_eq_true rfl) dX0_places_296
end
section
/-! THE CLAIM OUT OF ONE WALK OF THE LAW'S BODY. Your part is whole_start (and what it stands on); all else here is the same for every law, but numbers. -/
def R_law : String := "WholeFileLaw"
def lw_P (b : Addr) (xs : List Int32) (args : Array Value) (s : State) : Prop := args = #[.ref b] ∧ s.IntsAt b xs ∧ xs.length ≤ 49 ∧ (Jvm.Cond.and given_1 narrow_1).before args s = true
def lw_Q (_ : Array Value) (s : State) (o : Outcome) (t : State) : Prop := o = .returned (some (.int 1)) ∧ Framed s o t [] 1200000 5502250
def lw_Z (below : List Frame) (a : Array Value) (s : State) : State → Prop := fun t => ∃ o, t.status = .running ∧ Ended t below o ∧ lw_Q a s o t
/-- the law's own end, with 1 on the stack, nothing written that was there before, its room as the claim has it -/
theorem lw_ret {p : Program} {l : Launch} {e : Env} {s : State} {m : MethodId} {below : List Frame} {meth : Method} {c : Code} {b : Nat} (hx : p.tables.exec = Jvm.exec) (hb : c.code = code) (hr : meth.sig.returnType = ret) (hlocks : meth.locks = false) {pc : Nat} {H : Heap} {ls : Array Slot} (hdg : decode code pc = .ok (.ireturn, 1)) : W p l e room_1 s m #[Value.ref b] below meth c H [] 1200000 5502250 (lw_Z below #[Value.ref b] s) (F0 m pc ls [.int 1]) := by
  intro T hT X
  obtain ⟨fs, hret, hrun, hended, hW, hframe⟩ := X.leave (v := some (.int 1)) (hlocks := hlocks) (fun h => by rw [hr] at h; cases h)
  have hmeth' : T.vm.method? m = some meth := X.method'
  refine ⟨T.setFrames fs, ?_, .returned (some (.int 1)), hrun, hended, rfl, ⟨_, rfl⟩, hW, hframe⟩
  jvm_step X.here [X.here.top, hx, hb, hdg, hmeth', hr, ret, narrow_b1]
  (try refine ⟨rfl, ?_⟩); (try refine ⟨rfl, ?_⟩)
  first | (intro acts; rw [hret _ acts rfl rfl rfl]) | rw [hret _ _ rfl rfl rfl]
  exact Steps.refl _
/-- what holds at the law's entry: the machine, the code, the tables' words (any of lw_tbl by 'hts w (by decide +kernel)'), the script of L ints xs at the cell b, what the Statement gives of the start (any of its parts by flat_of_before) -/
def lw_At (p : Program) (s : State) (m : MethodId) (meth : Method) (c : Code) (b L : Nat) (xs : Nat → Int32) : Prop :=
  p.tables.exec = Jvm.exec ∧ c.code = code ∧ meth.sig.returnType = ret ∧ c.maxLocals = 18 ∧ s.vm.findClass R_law = some m.cls ∧ (∀ w ∈ lw_tbl, w.before #[Value.ref b] s = true) ∧ va_X b L xs s s.heap ∧ b < s.heap.size ∧ meth.locks = false ∧ (Jvm.Cond.and given_1 narrow_1).before #[Value.ref b] s = true
end
section
/-! WholeFileLaw: law itself -/
set_option maxRecDepth 100000
/-- a row of longs, as a cell -/
abbrev lw_cL (dL : ClassId) (a n : Nat) (f : Nat → Int64) : Nat × va_E := (a, .inl (dL, n, .inr (.inl f)))
theorem lw_getlast {α : Type} (u : List α) (c : α) : (u ++ [c])[u.length]? = some c := by rw [List.getElem?_append_right (Nat.le_refl _), Nat.sub_self]; rfl
set_option maxHeartbeats 4000000 in
set_option maxRecDepth 100000 in
/-- the law from 307 on: two files out of the script, all checks, then added, steps, places -/
theorem lw_lawB {p : Program} {l : Launch} {e : Env} {s : State} {m : MethodId} {below : List Frame} {meth : Method} {c : Code} {D : va_G} {dI dF : ClassId} {A : Nat → Prop} {b L : Nat} {xs : Nat → Int32} (hx : p.tables.exec = Jvm.exec) (hb : c.code = cL_law) (hr : meth.sig.returnType = ret) (hlocks : meth.locks = false) (hml : c.maxLocals = 18) (hown : s.vm.findClass RX0 = some m.cls) (hts : ∀ w ∈ lw_all, w.before #[Value.ref b] s = true) (hX0 : va_X b L xs s s.heap) (hbl : b < s.heap.size) (hbA : ¬ A b) (hL : L < 2 ^ 31) (hA : ∀ q, s.heap.size ≤ q → A q) (hAB : ∀ q, A q → s.heap.size ≤ q) (hK : wr_K D dI dF s) (ws : va_W) (H : Heap) (locs : List Loc) (hP : va_P D vwCl ws H) (hD : va_D A ws) (hS : va_S A s.heap H locs) (ls : Array Slot) (hl : lv_has ls 18 [(0, .ref b)]) : W p l e room_1 s m #[Value.ref b] below meth c H locs 14 163 (lw_Z below #[Value.ref b] s) (F0 m 307 ls []) := by
  obtain ⟨n, hn⟩ : ∃ n, n = lw_N L xs := ⟨_, rfl⟩
  obtain ⟨hn1, hn2⟩ := lw_N_in hn
  have hB : n < 2 ^ 31 := by omega
  have hB2 : n + n < 2 ^ 31 := by omega
  refine lv_iconst (v := nI 1) hx hb dL_law_307 (by decide) ?_
  refine lv_aload_n hx hb dL_law_308 rfl (lv_at hl 0 rfl) ?_
  refine lv_iconst (v := nI 0) hx hb dL_law_309 (by decide) ?_
  refine wr_calli0 hD hS hA (va_runS (As := [.ref b, .int (nI 0)]) (rest := [.int (nI 1)]) ⟨hx, hb, hml, hown, hts⟩ (c_cell l D dI dF _ H.size b L xs (0) (by decide) hL) (va_cwS 2 hts (lw_S q96 q97 q0 q98) rfl rfl rfl (by decide +kernel) ⟨Nat.le_of_ble_eq_true rfl, Nat.le_of_ble_eq_true rfl⟩) (wr_preX hX0 hbl hbA hP hK hD hS) rfl rfl hl.1 rfl (lv_room (Nat.le_of_ble_eq_true rfl)) dL_law_310 ⟨Nat.le_of_ble_eq_true rfl, Nat.le_of_ble_eq_true rfl⟩) (fun r_ u_ H locs hp hP hD hS => ?_)
  subst hp
  refine lv_bipush (v := 15) hx hb dL_law_313 (by decide) ?_
  refine lv_iand hx hb dL_law_315 ?_
  refine wr_topi (nI (wn_w (lw_cl L xs 0) % 16)) (wf_and15 _) ?_
  refine lv_iadd hx hb dL_law_316 ?_
  refine wr_topi (nI n) (by rw [nI_add, hn]; rfl) ?_
  refine lv_istore_n (lv' := [(1, .int (nI n)), (0, .ref b)]) hx hb dL_law_317 rfl hl (by decide) rfl (fun ls hl => ?_)
  refine lv_aload_n hx hb dL_law_318 rfl (lv_at hl 1 rfl) ?_
  refine wr_callr hD hS hA (va_runS (As := [.ref b]) (rest := []) ⟨hx, hb, hml, hown, hts⟩ (c_three l D dI dF _ H.size b L xs hL n hn) (va_cwS 1 hts (lw_S q99 q100 q0 q101) rfl rfl rfl (by decide +kernel) ⟨Nat.le_of_ble_eq_true rfl, Nat.le_of_ble_eq_true rfl⟩) (wr_preX hX0 hbl hbA hP hK hD hS) rfl rfl hl.1 rfl (lv_room (Nat.le_of_ble_eq_true rfl)) dL_law_319 ⟨Nat.le_of_ble_eq_true rfl, Nat.le_of_ble_eq_true rfl⟩) (fun u qX H locs hp hP hD hS => ?_)
  obtain ⟨hl_, hp_, RX, wX, hX, hRX⟩ := hp
  have hpre : ∀ j, j < ws.length → u[j]? = ws[j]? := hp_
  have hlen : u.length = ws.length + 7 := hl_
  refine lv_astore_n (lv' := [(2, .ref qX), (1, .int (nI n)), (0, .ref b)]) hx hb dL_law_322 rfl hl (by decide) rfl (fun ls hl => ?_)
  refine lv_aload_n hx hb dL_law_323 rfl (lv_at hl 2 rfl) ?_
  refine wr_callr hD hS hA (va_runS (As := [.ref b]) (rest := []) ⟨hx, hb, hml, hown, hts⟩ (c_three l D dI dF _ H.size b L xs hL n hn) (va_cwS 1 hts (lw_S q99 q100 q0 q101) rfl rfl rfl (by decide +kernel) ⟨Nat.le_of_ble_eq_true rfl, Nat.le_of_ble_eq_true rfl⟩) (wr_preX hX0 hbl hbA hP hK hD hS) rfl rfl hl.1 rfl (lv_room (Nat.le_of_ble_eq_true rfl)) dL_law_324 ⟨Nat.le_of_ble_eq_true rfl, Nat.le_of_ble_eq_true rfl⟩) (fun u qY H locs hp hP hD hS => ?_)
  obtain ⟨hl_, hp_, RY, wY, hY, hRY⟩ := hp
  rw [hlen] at hl_ hY
  have hX := wf_mono hX (fun j _ h8 => hp_ j (by omega))
  have hpre : ∀ j, j < ws.length → u[j]? = ws[j]? := fun j hj => (hp_ j (by omega)).trans (hpre j hj)
  have hlen : u.length = ws.length + 14 := by omega
  refine lv_astore_n (lv' := [(3, .ref qY), (2, .ref qX), (1, .int (nI n)), (0, .ref b)]) hx hb dL_law_327 rfl hl (by decide) rfl (fun ls hl => ?_)
  refine W.widen (k := 40) (n := 425) (Nat.le_of_ble_eq_true rfl) (Nat.le_of_ble_eq_true rfl) ?_
  refine lv_iconst (v := nI 0) hx hb dL_law_328 (by decide) ?_
  refine lv_istore (lv' := [(4, .int (nI 0)), (3, .ref qY), (2, .ref qX), (1, .int (nI n)), (0, .ref b)]) hx hb dL_law_329 hl (by decide) rfl (fun ls hl => ?_)
  have hret := hr
  clear hr
  have loopO : (∀ (H : Heap) (locs : List Loc) (ls : Array Slot), va_P D vwCl u H → va_D A u → va_S A s.heap H locs → lv_has ls 18 [(4, .int (nI 3)), (0, .ref b), (1, .int (nI n)), (2, .ref qX), (3, .ref qY)] → W p l e room_1 s m #[Value.ref b] below meth c H locs 40 425 (lw_Z below #[Value.ref b] s) (F0 m 385 ls [])) → ∀ (k_r r : Nat) (H : Heap) (locs : List Loc) (ls : Array Slot), r + k_r = 3 → va_P D vwCl u H → va_D A u → va_S A s.heap H locs → lv_has ls 18 [(4, .int (nI r)), (0, .ref b), (1, .int (nI n)), (2, .ref qX), (3, .ref qY)] → W p l e room_1 s m #[Value.ref b] below meth c H locs 40 425 (lw_Z below #[Value.ref b] s) (F0 m 331 ls []) := by
    intro kx_r k_r
    induction k_r with
    | zero =>
      intro r H locs ls hik hP hD hS hl
      have hin : r = 3 := by omega
      rw [hin] at hl
      refine lv_iload hx hb dL_law_331 (lv_at hl 0 rfl) ?_
      refine lv_iconst (v := nI 3) hx hb dL_law_333 (by decide) ?_
      refine lv_icmp_ge (tgt := 385) hx hb dL_law_334 (by decide) (fun _ => ?_) (fun q_ => absurd (nI_le (Nat.le_refl _) (by omega)) q_)
      exact kx_r H locs ls hP hD hS (lv_sub hl [0, 1, 2, 3, 4] rfl)
    | succ k_r ih_r =>
      intro r H locs ls hik hP hD hS hl
      have hr : r < 3 := by omega
      refine lv_iload hx hb dL_law_331 (lv_at hl 0 rfl) ?_
      refine lv_iconst (v := nI 3) hx hb dL_law_333 (by decide) ?_
      refine lv_icmp_ge (tgt := 385) hx hb dL_law_334 (by decide) (fun q_ => absurd q_ (nI_ge hr (by omega))) (fun _ => ?_)
      refine lv_iconst (v := nI 0) hx hb dL_law_337 (by decide) ?_
      refine lv_istore (lv' := [(5, .int (nI 0)), (4, .int (nI r)), (0, .ref b), (1, .int (nI n)), (2, .ref qX), (3, .ref qY)]) hx hb dL_law_338 hl (by decide) rfl (fun ls hl => ?_)
      have hr_ : r < 3 := hr
      have loopI : (∀ (H : Heap) (locs : List Loc) (ls : Array Slot), va_P D vwCl u H → va_D A u → va_S A s.heap H locs → lv_has ls 18 [(5, .int (nI n)), (4, .int (nI r)), (0, .ref b), (1, .int (nI n)), (2, .ref qX), (3, .ref qY)] → W p l e room_1 s m #[Value.ref b] below meth c H locs 40 425 (lw_Z below #[Value.ref b] s) (F0 m 379 ls [])) → ∀ (k_i i : Nat) (H : Heap) (locs : List Loc) (ls : Array Slot), i + k_i = n → va_P D vwCl u H → va_D A u → va_S A s.heap H locs → lv_has ls 18 [(5, .int (nI i)), (4, .int (nI r)), (0, .ref b), (1, .int (nI n)), (2, .ref qX), (3, .ref qY)] → W p l e room_1 s m #[Value.ref b] below meth c H locs 40 425 (lw_Z below #[Value.ref b] s) (F0 m 340 ls []) := by
        intro kx_i k_i
        induction k_i with
        | zero =>
          intro i H locs ls hik hP hD hS hl
          have hin : i = n := by omega
          rw [hin] at hl
          refine lv_iload hx hb dL_law_340 (lv_at hl 0 rfl) ?_
          refine lv_iload_n hx hb dL_law_342 rfl (lv_at hl 3 rfl) ?_
          refine lv_icmp_ge (tgt := 379) hx hb dL_law_343 (by decide) (fun _ => ?_) (fun q_ => absurd (nI_le (Nat.le_refl _) (by omega)) q_)
          exact kx_i H locs ls hP hD hS (lv_sub hl [0, 1, 2, 3, 4, 5] rfl)
        | succ k_i ih_i =>
          intro i H locs ls hik hP hD hS hl
          have hi : i < n := by omega
          refine lv_iload hx hb dL_law_340 (lv_at hl 0 rfl) ?_
          refine lv_iload_n hx hb dL_law_342 rfl (lv_at hl 3 rfl) ?_
          refine lv_icmp_ge (tgt := 379) hx hb dL_law_343 (by decide) (fun q_ => absurd q_ (nI_ge hi (by omega))) (fun _ => ?_)
          refine lv_aload_n hx hb dL_law_346 rfl (lv_at hl 4 rfl) ?_
          refine lv_iload hx hb dL_law_347 (lv_at hl 1 rfl) ?_
          refine lv_iload hx hb dL_law_349 (lv_at hl 0 rfl) ?_
          refine wr_calli0 hD hS hA (va_runV (As := [.int (nI r), .int (nI i)]) (rest := []) ⟨hx, hb, hml, hown, hts⟩ (f_wordN l D dI dF _ H.size _ _ _ _ _ hX hn1 hn2 _ r (by omega) (lw_and3 (by omega)) (i) (hi)) (cwV 2 hts (lw_V q3 q4 q5 q1 q6) rfl rfl rfl (by decide +kernel) ⟨Nat.le_of_ble_eq_true rfl, Nat.le_of_ble_eq_true rfl⟩) (wf_preV hX hP hK hD) rfl rfl hl.1 rfl (lv_room (Nat.le_of_ble_eq_true rfl)) dL_law_351 ⟨Nat.le_of_ble_eq_true rfl, Nat.le_of_ble_eq_true rfl⟩) (fun r_ u_ H locs hp hP hD hS => ?_)
          subst hp
          refine lv_aload_n hx hb dL_law_354 rfl (lv_at hl 2 rfl) ?_
          refine lv_iconst (v := nI 1) hx hb dL_law_355 (by decide) ?_
          refine lv_bipush (v := nI 16) hx hb dL_law_356 (by decide) ?_
          refine lv_iload hx hb dL_law_358 (lv_at hl 1 rfl) ?_
          refine lv_imul hx hb dL_law_360 ?_
          refine wr_topi (nI (16 * r)) (pk_mul _ _) ?_
          refine lv_iadd hx hb dL_law_361 ?_
          refine wr_topi (nI (1 + 16 * r)) (nI_add _ _) ?_
          refine lv_iload hx hb dL_law_362 (lv_at hl 0 rfl) ?_
          refine lv_iadd hx hb dL_law_364 ?_
          refine wr_topi (nI (1 + 16 * r + i)) (nI_add _ _) ?_
          refine wr_calli0 hD hS hA (va_runS (As := [.ref b, .int (nI (1 + 16 * r + i))]) (rest := [.int (RX r (i))]) ⟨hx, hb, hml, hown, hts⟩ (c_cell l D dI dF _ H.size b L xs (1 + 16 * r + i) (by omega) hL) (va_cwS 2 hts (lw_S q96 q97 q0 q98) rfl rfl rfl (by decide +kernel) ⟨Nat.le_of_ble_eq_true rfl, Nat.le_of_ble_eq_true rfl⟩) (wr_preX hX0 hbl hbA hP hK hD hS) rfl rfl hl.1 rfl (lv_room (Nat.le_of_ble_eq_true rfl)) dL_law_365 ⟨Nat.le_of_ble_eq_true rfl, Nat.le_of_ble_eq_true rfl⟩) (fun r_ u_ H locs hp hP hD hS => ?_)
          subst hp
          refine lv_icmp_eq (tgt := 373) hx hb dL_law_368 (by decide) (fun _ => ?_) (fun q_ => absurd (show RX r (i) = lw_cl L xs (1 + 16 * r + i) from hRX r i hr_ hi) q_)
          refine lv_iinc (v := nI (i + 1)) (lv' := [(5, .int (nI (i + 1))), (4, .int (nI r)), (0, .ref b), (1, .int (nI n)), (2, .ref qX), (3, .ref qY)]) hx hb dL_law_373 hl (k := 0) rfl (wn_inc i) (by decide) rfl (fun ls hl => ?_)
          refine lv_goto (tgt := 340) hx hb dL_law_376 (by decide) ?_
          exact ih_i (i + 1) H locs ls (by omega) hP hD hS (lv_sub hl [0, 1, 2, 3, 4, 5] rfl)
      refine loopI ?_ (n) 0 H locs ls (by omega) hP hD hS (lv_sub hl [0, 1, 2, 3, 4, 5] rfl)
      clear loopI
      intro H locs ls hP hD hS hl
      refine lv_iinc (v := nI (r + 1)) (lv' := [(4, .int (nI (r + 1))), (5, .int (nI n)), (0, .ref b), (1, .int (nI n)), (2, .ref qX), (3, .ref qY)]) hx hb dL_law_379 hl (k := 1) rfl (wn_inc r) (by decide) rfl (fun ls hl => ?_)
      refine lv_goto (tgt := 331) hx hb dL_law_382 (by decide) ?_
      exact ih_r (r + 1) H locs ls (by omega) hP hD hS (lv_sub hl [0, 2, 3, 4, 5] rfl)
  refine loopO ?_ (3) 0 H locs ls (by omega) hP hD hS (lv_sub hl [0, 4, 3, 2, 1] rfl)
  clear loopO
  intro H locs ls hP hD hS hl
  have hr := hret
  refine lv_aload_n hx hb dL_law_385 rfl (lv_at hl 3 rfl) ?_
  refine lv_iconst (v := 3) hx hb dL_law_386 (by decide) ?_
  refine lv_iconst (v := 0) hx hb dL_law_387 (by decide) ?_
  refine lv_iconst (v := 1) hx hb dL_law_388 (by decide) ?_
  refine wr_calli0 hD hS hA (va_runV (As := [.int 3, .int 0, .int 1]) (rest := []) ⟨hx, hb, hml, hown, hts⟩ (f_add l D dI dF _ H.size _ _ _ _ _ hX hn1 hn2 3 3 (by decide) (by decide) 0 0 (by decide) (by decide) 1 1 (by decide) (by decide)) (cwV 3 hts (lw_V q7 q8 q9 q1 q10) rfl rfl rfl (by decide +kernel) ⟨Nat.le_of_ble_eq_true rfl, Nat.le_of_ble_eq_true rfl⟩) (wf_preV hX hP hK hD) rfl rfl hl.1 rfl (lv_room (Nat.le_of_ble_eq_true rfl)) dL_law_389 ⟨Nat.le_of_ble_eq_true rfl, Nat.le_of_ble_eq_true rfl⟩) (fun r_ u H locs hp hP hD hS => ?_)
  obtain ⟨hr_, hp⟩ := hp
  have hY := wf_keep hp hY (by omega)
  have hpre : ∀ j, j < ws.length → u[j]? = ws[j]? := fun j hj => (hp.2.1 j (Or.inl (by omega))).trans (hpre j hj)
  have hlen : u.length = ws.length + 14 := hp.1.trans hlen
  have hX := hp.2.2
  obtain ⟨RX1, eRX1⟩ : ∃ z_, z_ = va_up RX 3 (wr_f (wn_cw (wn_gA (RX 0) (RX 1))) (RX 3) n) := ⟨_, rfl⟩
  rw [← eRX1] at hX
  obtain ⟨cy, hcy⟩ : ∃ cy, cy = wn_c (wn_gA (RX 0) (RX 1)) n := ⟨_, rfl⟩
  have hcy1 : cy ≤ 1 := by rw [hcy]; exact wn_c_le1 (wn_gA_le _ _) n
  rw [← hcy] at hr_
  subst hr_
  have x13 : ∀ i, i < n → RX1 3 i = wn_cw (wn_gA (RX 0) (RX 1)) i := fun i hi => by rw [eRX1]; simp only [va_up, if_pos]; rw [wr_fl _ _ hi]
  have x10 : RX1 0 = RX 0 := by rw [eRX1]; rfl
  have x11 : RX1 1 = RX 1 := by rw [eRX1]; rfl
  have x12 : RX1 2 = RX 2 := by rw [eRX1]; rfl
  refine lv_istore (lv' := [(4, .int (nI cy)), (0, .ref b), (1, .int (nI n)), (2, .ref qX), (3, .ref qY)]) hx hb dL_law_392 hl (by decide) rfl (fun ls hl => ?_)
  refine lv_aload_n hx hb dL_law_394 rfl (lv_at hl 3 rfl) ?_
  refine lv_iconst (v := 3) hx hb dL_law_395 (by decide) ?_
  refine lv_iconst (v := 0) hx hb dL_law_396 (by decide) ?_
  refine wr_calli0 hD hS hA (va_runV (As := [.int 3, .int 0]) (rest := []) ⟨hx, hb, hml, hown, hts⟩ (f_atLeast l D dI dF _ H.size _ _ _ _ _ hX hn1 hn2 3 3 (by decide) (by decide) 0 0 (by decide) (by decide)) (cwV 2 hts (lw_V q84 q85 q86 q1 q87) rfl rfl rfl (by decide +kernel) ⟨Nat.le_of_ble_eq_true rfl, Nat.le_of_ble_eq_true rfl⟩) (wf_preV hX hP hK hD) rfl rfl hl.1 rfl (lv_room (Nat.le_of_ble_eq_true rfl)) dL_law_397 ⟨Nat.le_of_ble_eq_true rfl, Nat.le_of_ble_eq_true rfl⟩) (fun r_ u_ H locs hp hP hD hS => ?_)
  have hge := lw_addge x13
  rw [← hcy] at hge
  rw [x10] at hp
  have c426 : W p l e room_1 s m #[Value.ref b] below meth c H locs 40 425 (lw_Z below #[Value.ref b] s) (F0 m 426 ls []) → W p l e room_1 s m #[Value.ref b] below meth c H locs 40 425 (lw_Z below #[Value.ref b] s) (F0 m 400 ls [.int r_]) := by
    intro kk
    rcases (show cy = 0 ∨ cy = 1 by omega) with g | g
    · skip
      have hr_ := hp.1 (hge.mpr g)
      subst hr_
      refine lv_iload hx hb dL_law_400 (lv_at hl 0 rfl) ?_
      refine wr_topi (0) (by rw [g]; rfl) ?_
      refine lv_if_ne (tgt := 409) hx hb dL_law_402 (by decide) (fun q_ => absurd rfl q_) (fun _ => ?_)
      refine lv_iconst (v := 1) hx hb dL_law_405 (by decide) ?_
      refine lv_goto (tgt := 410) hx hb dL_law_406 (by decide) ?_
      refine lv_icmp_ne (tgt := 424) hx hb dL_law_410 (by decide) (fun q_ => absurd rfl q_) (fun _ => ?_)
      refine lv_iload hx hb dL_law_413 (lv_at hl 0 rfl) ?_
      refine wr_topi (0) (by rw [g]; rfl) ?_
      refine lv_if_eq (tgt := 426) hx hb dL_law_415 (by decide) (fun _ => ?_) (fun q_ => absurd rfl q_)
      exact kk
    · skip
      have hr_ := hp.2 (fun q => absurd (hge.mp q) (by omega))
      subst hr_
      refine lv_iload hx hb dL_law_400 (lv_at hl 0 rfl) ?_
      refine wr_topi (1) (by rw [g]; rfl) ?_
      refine lv_if_ne (tgt := 409) hx hb dL_law_402 (by decide) (fun _ => ?_) (fun q_ => absurd q_ (by decide))
      refine lv_iconst (v := 0) hx hb dL_law_409 (by decide) ?_
      refine lv_icmp_ne (tgt := 424) hx hb dL_law_410 (by decide) (fun q_ => absurd rfl q_) (fun _ => ?_)
      refine lv_iload hx hb dL_law_413 (lv_at hl 0 rfl) ?_
      refine wr_topi (1) (by rw [g]; rfl) ?_
      refine lv_if_eq (tgt := 426) hx hb dL_law_415 (by decide) (fun q_ => absurd q_ (by decide)) (fun _ => ?_)
      refine lv_iload hx hb dL_law_418 (lv_at hl 0 rfl) ?_
      refine wr_topi (1) (by rw [g]; rfl) ?_
      refine lv_iconst (v := 1) hx hb dL_law_420 (by decide) ?_
      refine lv_icmp_eq (tgt := 426) hx hb dL_law_421 (by decide) (fun _ => ?_) (fun q_ => absurd rfl q_)
      exact kk
  refine c426 ?_
  clear c426 hge hp
  obtain ⟨s1, s2⟩ := lw_addsub x13
  rw [← hcy] at s2
  refine lv_aload_n hx hb dL_law_426 rfl (lv_at hl 3 rfl) ?_
  refine lv_iconst (v := 3) hx hb dL_law_427 (by decide) ?_
  refine lv_iconst (v := 3) hx hb dL_law_428 (by decide) ?_
  refine lv_iconst (v := 1) hx hb dL_law_429 (by decide) ?_
  refine wr_calli0 hD hS hA (va_runV (As := [.int 3, .int 3, .int 1]) (rest := []) ⟨hx, hb, hml, hown, hts⟩ (f_subtract l D dI dF _ H.size _ _ _ _ _ hX hn1 hn2 3 3 (by decide) (by decide) 3 3 (by decide) (by decide) 1 1 (by decide) (by decide)) (cwV 3 hts (lw_V q15 q16 q17 q1 q18) rfl rfl rfl (by decide +kernel) ⟨Nat.le_of_ble_eq_true rfl, Nat.le_of_ble_eq_true rfl⟩) (wf_preV hX hP hK hD) rfl rfl hl.1 rfl (lv_room (Nat.le_of_ble_eq_true rfl)) dL_law_430 ⟨Nat.le_of_ble_eq_true rfl, Nat.le_of_ble_eq_true rfl⟩) (fun r_ u H locs hp hP hD hS => ?_)
  obtain ⟨hr_, hp⟩ := hp
  have hY := wf_keep hp hY (by omega)
  have hpre : ∀ j, j < ws.length → u[j]? = ws[j]? := fun j hj => (hp.2.1 j (Or.inl (by omega))).trans (hpre j hj)
  have hlen : u.length = ws.length + 14 := hp.1.trans hlen
  have hX := hp.2.2
  obtain ⟨RX2, eRX2⟩ : ∃ z_, z_ = va_up RX1 3 (wr_f (wn_bw (RX1 3) (RX1 1)) (RX1 3) n) := ⟨_, rfl⟩
  rw [← eRX2] at hX
  rw [x11, s2] at hr_
  have hng : Int32.ofInt (-(cy : Int)) = -(nI cy) := by rcases (show cy = 0 ∨ cy = 1 by omega) with g | g <;> (rw [g]; rfl)
  rw [hng] at hr_
  subst hr_
  have x23 : ∀ i, i < n → RX2 3 i = RX 0 i := fun i hi => by rw [eRX2]; simp only [va_up, if_pos]; rw [wr_fl _ _ hi, x11]; exact s1 i hi
  have x20 : RX2 0 = RX 0 := by rw [← x10, eRX2]; rfl
  have x21 : RX2 1 = RX 1 := by rw [← x11, eRX2]; rfl
  have x22 : RX2 2 = RX 2 := by rw [← x12, eRX2]; rfl
  refine lv_iload hx hb dL_law_433 (lv_at hl 0 rfl) ?_
  refine lv_ineg hx hb dL_law_435 ?_
  refine lv_icmp_ne (tgt := 450) hx hb dL_law_436 (by decide) (fun q_ => absurd rfl q_) (fun _ => ?_)
  refine lv_aload_n hx hb dL_law_439 rfl (lv_at hl 3 rfl) ?_
  refine lv_iconst (v := 3) hx hb dL_law_440 (by decide) ?_
  refine lv_aload_n hx hb dL_law_441 rfl (lv_at hl 3 rfl) ?_
  refine lv_iconst (v := 0) hx hb dL_law_442 (by decide) ?_
  refine lv_iload_n hx hb dL_law_443 rfl (lv_at hl 2 rfl) ?_
  refine wr_calli0 hD hS hA (va_runS (As := [.ref qX, .int 3, .ref qX, .int 0, .int (nI n)]) (rest := []) ⟨hx, hb, hml, hown, hts⟩ (c_same l D dI dF _ H.size _ _ _ _ n _ _ _ _ hX hX hn1 hn2 3 3 (by decide) (by decide) 0 0 (by decide) (by decide) (fun i hi => by rw [x20]; exact x23 i hi)) (va_cwS 5 hts (lw_S q131 q132 q0 q133) rfl rfl rfl (by decide +kernel) ⟨Nat.le_of_ble_eq_true rfl, Nat.le_of_ble_eq_true rfl⟩) (wr_preS hP hK hD) rfl rfl hl.1 rfl (lv_room (Nat.le_of_ble_eq_true rfl)) dL_law_444 ⟨Nat.le_of_ble_eq_true rfl, Nat.le_of_ble_eq_true rfl⟩) (fun r_ u_ H locs hp hP hD hS => ?_)
  subst hp
  refine lv_if_ne (tgt := 452) hx hb dL_law_447 (by decide) (fun _ => ?_) (fun q_ => absurd q_ (by decide))
  have vX0 : wn_v (wn_d (RX2 0)) n = wn_v (wn_d (lw_T L xs 0)) n := by rw [x20]; exact lw_val (fun j hj => hRX 0 j (by decide) hj)
  have vX1 : wn_v (wn_d (RX2 1)) n = wn_v (wn_d (lw_T L xs 1)) n := by rw [x21]; exact lw_val (fun j hj => hRX 1 j (by decide) hj)
  have vX2 : wn_v (wn_d (RX2 2)) n = wn_v (wn_d (lw_T L xs 2)) n := by rw [x22]; exact lw_val (fun j hj => hRX 2 j (by decide) hj)
  have vY0 : wn_v (wn_d (RY 0)) n = wn_v (wn_d (lw_T L xs 0)) n := lw_val (fun j hj => hRY 0 j (by decide) hj)
  have vY1 : wn_v (wn_d (RY 1)) n = wn_v (wn_d (lw_T L xs 1)) n := lw_val (fun j hj => hRY 1 j (by decide) hj)
  have vY2 : wn_v (wn_d (RY 2)) n = wn_v (wn_d (lw_T L xs 2)) n := lw_val (fun j hj => hRY 2 j (by decide) hj)
  refine lv_aload_n hx hb dL_law_452 rfl (lv_at hl 3 rfl) ?_
  refine lv_iconst (v := 0) hx hb dL_law_453 (by decide) ?_
  refine lv_iconst (v := 1) hx hb dL_law_454 (by decide) ?_
  refine wr_callv0 hD hS hA (va_runV (As := [.int 0, .int 1]) (rest := []) ⟨hx, hb, hml, hown, hts⟩ (f_multiply l D dI dF _ H.size _ _ _ _ _ hX hn1 hn2 0 0 (by decide) (by decide) 1 1 (by decide) (by decide)) (cwV 2 hts (lw_V q22 q23 q24 q1 q25) rfl rfl rfl (by decide +kernel) ⟨Nat.le_of_ble_eq_true rfl, Nat.le_of_ble_eq_true rfl⟩) (wf_preV hX hP hK hD) rfl rfl hl.1 rfl (lv_room (Nat.le_of_ble_eq_true rfl)) dL_law_455 ⟨Nat.le_of_ble_eq_true rfl, Nat.le_of_ble_eq_true rfl⟩) (fun u H locs hp hP hD hS => ?_)
  obtain ⟨wX1, hwX1, hp⟩ := hp
  have hY := wf_keep hp hY (by omega)
  have hpre : ∀ j, j < ws.length → u[j]? = ws[j]? := fun j hj => (hp.2.1 j (Or.inl (by omega))).trans (hpre j hj)
  have hlen : u.length = ws.length + 14 := hp.1.trans hlen
  have hX := hp.2.2
  refine lv_aload_n hx hb dL_law_458 rfl (lv_at hl 4 rfl) ?_
  refine lv_iconst (v := 1) hx hb dL_law_459 (by decide) ?_
  refine lv_iconst (v := 0) hx hb dL_law_460 (by decide) ?_
  refine wr_callv0 hD hS hA (va_runV (As := [.int 1, .int 0]) (rest := []) ⟨hx, hb, hml, hown, hts⟩ (f_multiply l D dI dF _ H.size _ _ _ _ _ hY hn1 hn2 1 1 (by decide) (by decide) 0 0 (by decide) (by decide)) (cwV 2 hts (lw_V q22 q23 q24 q1 q25) rfl rfl rfl (by decide +kernel) ⟨Nat.le_of_ble_eq_true rfl, Nat.le_of_ble_eq_true rfl⟩) (wf_preV hY hP hK hD) rfl rfl hl.1 rfl (lv_room (Nat.le_of_ble_eq_true rfl)) dL_law_461 ⟨Nat.le_of_ble_eq_true rfl, Nat.le_of_ble_eq_true rfl⟩) (fun u H locs hp hP hD hS => ?_)
  obtain ⟨wY1, hwY1, hp⟩ := hp
  have hX := wf_keep hp hX (by omega)
  have hpre : ∀ j, j < ws.length → u[j]? = ws[j]? := fun j hj => (hp.2.1 j (Or.inl (by omega))).trans (hpre j hj)
  have hlen : u.length = ws.length + 14 := hp.1.trans hlen
  have hY := hp.2.2
  have p1 : ∀ i, i < n + n → wX1 i = wY1 i := fun i hi => wn_v_injI (n + n) (by rw [hwX1, hwY1, vX0, vX1, vY0, vY1, Nat.mul_comm]) i hi
  refine lv_aload_n hx hb dL_law_464 rfl (lv_at hl 3 rfl) ?_
  refine lv_aload_n hx hb dL_law_465 rfl (lv_at hl 4 rfl) ?_
  refine lv_iload_n hx hb dL_law_466 rfl (lv_at hl 2 rfl) ?_
  refine wr_calli0 hD hS hA (va_runS (As := [.ref qX, .ref qY, .int (nI n)]) (rest := []) ⟨hx, hb, hml, hown, hts⟩ (c_sameWide l D dI dF _ H.size _ _ _ _ n _ _ _ _ hX hY hn1 hn2 (p1)) (va_cwS 3 hts (lw_S q134 q135 q0 q136) rfl rfl rfl (by decide +kernel) ⟨Nat.le_of_ble_eq_true rfl, Nat.le_of_ble_eq_true rfl⟩) (wr_preS hP hK hD) rfl rfl hl.1 rfl (lv_room (Nat.le_of_ble_eq_true rfl)) dL_law_467 ⟨Nat.le_of_ble_eq_true rfl, Nat.le_of_ble_eq_true rfl⟩) (fun r_ u_ H locs hp hP hD hS => ?_)
  subst hp
  refine lv_if_ne (tgt := 475) hx hb dL_law_470 (by decide) (fun _ => ?_) (fun q_ => absurd q_ (by decide))
  refine lv_aload_n hx hb dL_law_475 rfl (lv_at hl 3 rfl) ?_
  refine lv_iconst (v := 0) hx hb dL_law_476 (by decide) ?_
  refine lv_iconst (v := 2) hx hb dL_law_477 (by decide) ?_
  refine wr_calli0 hD hS hA (va_runV (As := [.int 0, .int 2]) (rest := []) ⟨hx, hb, hml, hown, hts⟩ (f_multiplyAdd l D dI dF _ H.size _ _ _ _ _ hX hn1 hn2 0 0 (by decide) (by decide) 2 2 (by decide) (by decide)) (cwV 2 hts (lw_V q48 q49 q50 q1 q51) rfl rfl rfl (by decide +kernel) ⟨Nat.le_of_ble_eq_true rfl, Nat.le_of_ble_eq_true rfl⟩) (wf_preV hX hP hK hD) rfl rfl hl.1 rfl (lv_room (Nat.le_of_ble_eq_true rfl)) dL_law_478 ⟨Nat.le_of_ble_eq_true rfl, Nat.le_of_ble_eq_true rfl⟩) (fun r_ u H locs hp hP hD hS => ?_)
  obtain ⟨wX2, cwX2, hc1_, hcwX2, hwX2, hp⟩ := hp
  have hY := wf_keep hp hY (by omega)
  have hpre : ∀ j, j < ws.length → u[j]? = ws[j]? := fun j hj => (hp.2.1 j (Or.inl (by omega))).trans (hpre j hj)
  have hlen : u.length = ws.length + 14 := hp.1.trans hlen
  have hX := hp.2.2
  subst hcwX2
  refine lv_istore (lv' := [(5, .int (nI cwX2)), (4, .int (nI cy)), (0, .ref b), (1, .int (nI n)), (2, .ref qX), (3, .ref qY)]) hx hb dL_law_481 hl (by decide) rfl (fun ls hl => ?_)
  refine lv_aload_n hx hb dL_law_483 rfl (lv_at hl 5 rfl) ?_
  refine lv_iconst (v := 2) hx hb dL_law_484 (by decide) ?_
  refine lv_iconst (v := 0) hx hb dL_law_485 (by decide) ?_
  refine wr_callv0 hD hS hA (va_runV (As := [.int 2, .int 0]) (rest := []) ⟨hx, hb, hml, hown, hts⟩ (f_multiply l D dI dF _ H.size _ _ _ _ _ hY hn1 hn2 2 2 (by decide) (by decide) 0 0 (by decide) (by decide)) (cwV 2 hts (lw_V q22 q23 q24 q1 q25) rfl rfl rfl (by decide +kernel) ⟨Nat.le_of_ble_eq_true rfl, Nat.le_of_ble_eq_true rfl⟩) (wf_preV hY hP hK hD) rfl rfl hl.1 rfl (lv_room (Nat.le_of_ble_eq_true rfl)) dL_law_486 ⟨Nat.le_of_ble_eq_true rfl, Nat.le_of_ble_eq_true rfl⟩) (fun u H locs hp hP hD hS => ?_)
  obtain ⟨wY2, hwY2, hp⟩ := hp
  have hX := wf_keep hp hX (by omega)
  have hpre : ∀ j, j < ws.length → u[j]? = ws[j]? := fun j hj => (hp.2.1 j (Or.inl (by omega))).trans (hpre j hj)
  have hlen : u.length = ws.length + 14 := hp.1.trans hlen
  have hY := hp.2.2
  refine lv_aload_n hx hb dL_law_489 rfl (lv_at hl 5 rfl) ?_
  refine lv_iconst (v := 1) hx hb dL_law_490 (by decide) ?_
  refine lv_iconst (v := 0) hx hb dL_law_491 (by decide) ?_
  refine wr_calli0 hD hS hA (va_runV (As := [.int 1, .int 0]) (rest := []) ⟨hx, hb, hml, hown, hts⟩ (f_multiplyAdd l D dI dF _ H.size _ _ _ _ _ hY hn1 hn2 1 1 (by decide) (by decide) 0 0 (by decide) (by decide)) (cwV 2 hts (lw_V q48 q49 q50 q1 q51) rfl rfl rfl (by decide +kernel) ⟨Nat.le_of_ble_eq_true rfl, Nat.le_of_ble_eq_true rfl⟩) (wf_preV hY hP hK hD) rfl rfl hl.1 rfl (lv_room (Nat.le_of_ble_eq_true rfl)) dL_law_492 ⟨Nat.le_of_ble_eq_true rfl, Nat.le_of_ble_eq_true rfl⟩) (fun r_ u H locs hp hP hD hS => ?_)
  obtain ⟨wY3, cwY3, hc1_, hcwY3, hwY3, hp⟩ := hp
  have hX := wf_keep hp hX (by omega)
  have hpre : ∀ j, j < ws.length → u[j]? = ws[j]? := fun j hj => (hp.2.1 j (Or.inl (by omega))).trans (hpre j hj)
  have hlen : u.length = ws.length + 14 := hp.1.trans hlen
  have hY := hp.2.2
  subst hcwY3
  obtain ⟨p2, p3⟩ := lw_two_uniq (f := wX2) (g := wY3) (m := n + n) (c := cwX2) (d := cwY3) (by rw [hwX2, hwX1, hwY3, hwY2, vX0, vX1, vX2, vY0, vY1, vY2, Nat.mul_comm (wn_v (wn_d (lw_T L xs 2)) n), Nat.mul_comm (wn_v (wn_d (lw_T L xs 1)) n), Nat.add_comm])
  refine lv_iload hx hb dL_law_495 (lv_at hl 0 rfl) ?_
  refine lv_icmp_ne (tgt := 509) hx hb dL_law_497 (by decide) (fun q_ => absurd (by rw [p3]) q_) (fun _ => ?_)
  refine lv_aload_n hx hb dL_law_500 rfl (lv_at hl 4 rfl) ?_
  refine lv_aload_n hx hb dL_law_501 rfl (lv_at hl 5 rfl) ?_
  refine lv_iload_n hx hb dL_law_502 rfl (lv_at hl 3 rfl) ?_
  refine wr_calli0 hD hS hA (va_runS (As := [.ref qX, .ref qY, .int (nI n)]) (rest := []) ⟨hx, hb, hml, hown, hts⟩ (c_sameWide l D dI dF _ H.size _ _ _ _ n _ _ _ _ hX hY hn1 hn2 (p2)) (va_cwS 3 hts (lw_S q134 q135 q0 q136) rfl rfl rfl (by decide +kernel) ⟨Nat.le_of_ble_eq_true rfl, Nat.le_of_ble_eq_true rfl⟩) (wr_preS hP hK hD) rfl rfl hl.1 rfl (lv_room (Nat.le_of_ble_eq_true rfl)) dL_law_503 ⟨Nat.le_of_ble_eq_true rfl, Nat.le_of_ble_eq_true rfl⟩) (fun r_ u_ H locs hp hP hD hS => ?_)
  subst hp
  refine lv_if_ne (tgt := 511) hx hb dL_law_506 (by decide) (fun _ => ?_) (fun q_ => absurd q_ (by decide))
  refine lv_aload_n hx hb dL_law_511 rfl (lv_at hl 4 rfl) ?_
  refine lv_iconst (v := 0) hx hb dL_law_512 (by decide) ?_
  refine wr_callv0 hD hS hA (va_runV (As := [.int 0]) (rest := []) ⟨hx, hb, hml, hown, hts⟩ (f_square l D dI dF _ H.size _ _ _ _ _ hX hn1 hn2 0 0 (by decide) (by decide)) (cwV 1 hts (lw_V q35 q36 q37 q1 q38) rfl rfl rfl (by decide +kernel) ⟨Nat.le_of_ble_eq_true rfl, Nat.le_of_ble_eq_true rfl⟩) (wf_preV hX hP hK hD) rfl rfl hl.1 rfl (lv_room (Nat.le_of_ble_eq_true rfl)) dL_law_513 ⟨Nat.le_of_ble_eq_true rfl, Nat.le_of_ble_eq_true rfl⟩) (fun u H locs hp hP hD hS => ?_)
  obtain ⟨wX4, hwX4, hp⟩ := hp
  have hY := wf_keep hp hY (by omega)
  have hpre : ∀ j, j < ws.length → u[j]? = ws[j]? := fun j hj => (hp.2.1 j (Or.inl (by omega))).trans (hpre j hj)
  have hlen : u.length = ws.length + 14 := hp.1.trans hlen
  have hX := hp.2.2
  refine lv_aload_n hx hb dL_law_516 rfl (lv_at hl 5 rfl) ?_
  refine lv_iconst (v := 0) hx hb dL_law_517 (by decide) ?_
  refine lv_iconst (v := 0) hx hb dL_law_518 (by decide) ?_
  refine wr_callv0 hD hS hA (va_runV (As := [.int 0, .int 0]) (rest := []) ⟨hx, hb, hml, hown, hts⟩ (f_multiply l D dI dF _ H.size _ _ _ _ _ hY hn1 hn2 0 0 (by decide) (by decide) 0 0 (by decide) (by decide)) (cwV 2 hts (lw_V q22 q23 q24 q1 q25) rfl rfl rfl (by decide +kernel) ⟨Nat.le_of_ble_eq_true rfl, Nat.le_of_ble_eq_true rfl⟩) (wf_preV hY hP hK hD) rfl rfl hl.1 rfl (lv_room (Nat.le_of_ble_eq_true rfl)) dL_law_519 ⟨Nat.le_of_ble_eq_true rfl, Nat.le_of_ble_eq_true rfl⟩) (fun u H locs hp hP hD hS => ?_)
  obtain ⟨wY4, hwY4, hp⟩ := hp
  have hX := wf_keep hp hX (by omega)
  have hpre : ∀ j, j < ws.length → u[j]? = ws[j]? := fun j hj => (hp.2.1 j (Or.inl (by omega))).trans (hpre j hj)
  have hlen : u.length = ws.length + 14 := hp.1.trans hlen
  have hY := hp.2.2
  have p4 : ∀ i, i < n + n → wX4 i = wY4 i := fun i hi => wn_v_injI (n + n) (by rw [hwX4, hwY4, vX0, vY0]) i hi
  refine lv_aload_n hx hb dL_law_522 rfl (lv_at hl 4 rfl) ?_
  refine lv_aload_n hx hb dL_law_523 rfl (lv_at hl 5 rfl) ?_
  refine lv_iload_n hx hb dL_law_524 rfl (lv_at hl 3 rfl) ?_
  refine wr_calli0 hD hS hA (va_runS (As := [.ref qX, .ref qY, .int (nI n)]) (rest := []) ⟨hx, hb, hml, hown, hts⟩ (c_sameWide l D dI dF _ H.size _ _ _ _ n _ _ _ _ hX hY hn1 hn2 (p4)) (va_cwS 3 hts (lw_S q134 q135 q0 q136) rfl rfl rfl (by decide +kernel) ⟨Nat.le_of_ble_eq_true rfl, Nat.le_of_ble_eq_true rfl⟩) (wr_preS hP hK hD) rfl rfl hl.1 rfl (lv_room (Nat.le_of_ble_eq_true rfl)) dL_law_525 ⟨Nat.le_of_ble_eq_true rfl, Nat.le_of_ble_eq_true rfl⟩) (fun r_ u_ H locs hp hP hD hS => ?_)
  subst hp
  refine lv_if_ne (tgt := 533) hx hb dL_law_528 (by decide) (fun _ => ?_) (fun q_ => absurd q_ (by decide))
  refine lv_aload_n hx hb dL_law_533 rfl (lv_at hl 2 rfl) ?_
  refine lv_iconst (v := nI 1) hx hb dL_law_534 (by decide) ?_
  refine wr_calli0 hD hS hA (va_runS (As := [.ref b, .int (nI 1)]) (rest := []) ⟨hx, hb, hml, hown, hts⟩ (c_cell l D dI dF _ H.size b L xs (1) (by decide) hL) (va_cwS 2 hts (lw_S q96 q97 q0 q98) rfl rfl rfl (by decide +kernel) ⟨Nat.le_of_ble_eq_true rfl, Nat.le_of_ble_eq_true rfl⟩) (wr_preX hX0 hbl hbA hP hK hD hS) rfl rfl hl.1 rfl (lv_room (Nat.le_of_ble_eq_true rfl)) dL_law_535 ⟨Nat.le_of_ble_eq_true rfl, Nat.le_of_ble_eq_true rfl⟩) (fun r_ u_ H locs hp hP hD hS => ?_)
  subst hp
  refine lv_istore (lv' := [(6, .int (lw_cl L xs (1))), (5, .int (nI cwX2)), (4, .int (nI cy)), (0, .ref b), (1, .int (nI n)), (2, .ref qX), (3, .ref qY)]) hx hb dL_law_538 hl (by decide) rfl (fun ls hl => ?_)
  obtain ⟨bits, hbits⟩ : ∃ bits, bits = lw_cl L xs (1) := ⟨_, rfl⟩
  rw [← hbits] at hl
  have hkk := wf_k_in bits
  refine lv_iconst (v := nI 1) hx hb dL_law_540 (by decide) ?_
  refine lv_iload hx hb dL_law_541 (lv_at hl 0 rfl) ?_
  refine lv_ldc (v := 2147483647) hx hb hown (hts _ q153) dL_law_543 ?_
  refine lv_iand hx hb dL_law_545 ?_
  refine wr_topi (nI (wn_w bits % 2147483648)) (wf_and31 bits) ?_
  refine lv_bipush (v := 31) hx hb dL_law_546 (by decide) ?_
  refine lv_irem hx hb dL_law_548 (by decide) ?_
  refine wr_topi (nI (wn_w bits % 2147483648 % 31)) (wf_rem31 bits) ?_
  refine lv_iadd hx hb dL_law_549 ?_
  refine wr_topi (nI (wf_k bits)) (nI_add _ _) ?_
  refine lv_istore (lv' := [(7, .int (nI (wf_k bits))), (6, .int bits), (5, .int (nI cwX2)), (4, .int (nI cy)), (0, .ref b), (1, .int (nI n)), (2, .ref qX), (3, .ref qY)]) hx hb dL_law_550 hl (by decide) rfl (fun ls hl => ?_)
  refine lv_aload_n hx hb dL_law_552 rfl (lv_at hl 6 rfl) ?_
  refine lv_iconst (v := 0) hx hb dL_law_553 (by decide) ?_
  refine lv_iload_n hx hb dL_law_554 rfl (lv_at hl 5 rfl) ?_
  refine lv_iconst (v := nI 1) hx hb dL_law_555 (by decide) ?_
  refine lv_isub hx hb dL_law_556 ?_
  refine wr_topi (nI (n - 1)) (pk_sub hn1) ?_
  refine wr_calli0 hD hS hA (va_runV (As := [.int 0, .int (nI (n - 1))]) (rest := []) ⟨hx, hb, hml, hown, hts⟩ (f_wordN l D dI dF _ H.size _ _ _ _ _ hX hn1 hn2 _ 0 (by decide) (by decide) (n - 1) (by omega)) (cwV 2 hts (lw_V q3 q4 q5 q1 q6) rfl rfl rfl (by decide +kernel) ⟨Nat.le_of_ble_eq_true rfl, Nat.le_of_ble_eq_true rfl⟩) (wf_preV hX hP hK hD) rfl rfl hl.1 rfl (lv_room (Nat.le_of_ble_eq_true rfl)) dL_law_557 ⟨Nat.le_of_ble_eq_true rfl, Nat.le_of_ble_eq_true rfl⟩) (fun r_ u_ H locs hp hP hD hS => ?_)
  subst hp
  refine lv_bipush (v := nI 32) hx hb dL_law_560 (by decide) ?_
  refine lv_iload hx hb dL_law_562 (lv_at hl 0 rfl) ?_
  refine lv_isub hx hb dL_law_564 ?_
  refine wr_topi (nI (32 - wf_k bits)) (pk_sub (by omega)) ?_
  refine lv_iushr (v := wn_ur (wn_pv 0 (RX2 0) n) (-(nI (wf_k bits)))) hx hb dL_law_565 (by rw [show wn_pv 0 (RX2 0) n = RX2 0 (n - 1) from by obtain ⟨i0, hi0⟩ : ∃ i0, n = i0 + 1 := ⟨n - 1, by omega⟩; rw [hi0]; rfl]; exact lw_ur32 bits _) ?_
  refine lv_istore (lv' := [(8, .int (wn_ur (wn_pv 0 (RX2 0) n) (-(nI (wf_k bits))))), (7, .int (nI (wf_k bits))), (6, .int bits), (5, .int (nI cwX2)), (4, .int (nI cy)), (0, .ref b), (1, .int (nI n)), (2, .ref qX), (3, .ref qY)]) hx hb dL_law_566 hl (by decide) rfl (fun ls hl => ?_)
  refine lv_aload_n hx hb dL_law_568 rfl (lv_at hl 7 rfl) ?_
  refine lv_iconst (v := 0) hx hb dL_law_569 (by decide) ?_
  refine lv_iload hx hb dL_law_570 (lv_at hl 2 rfl) ?_
  refine wr_calli0 hD hS hA (va_runV (As := [.int 0, .int bits]) (rest := []) ⟨hx, hb, hml, hown, hts⟩ (f_up l D dI dF _ H.size _ _ _ _ _ hX hn1 hn2 0 0 (by decide) (by decide) bits) (cwV 2 hts (lw_V q55 q56 q57 q1 q58) rfl rfl rfl (by decide +kernel) ⟨Nat.le_of_ble_eq_true rfl, Nat.le_of_ble_eq_true rfl⟩) (wf_preV hX hP hK hD) rfl rfl hl.1 rfl (lv_room (Nat.le_of_ble_eq_true rfl)) dL_law_572 ⟨Nat.le_of_ble_eq_true rfl, Nat.le_of_ble_eq_true rfl⟩) (fun r_ u H locs hp hP hD hS => ?_)
  obtain ⟨hr_, hp⟩ := hp
  subst hr_
  have hY := wf_keep hp hY (by omega)
  have hpre : ∀ j, j < ws.length → u[j]? = ws[j]? := fun j hj => (hp.2.1 j (Or.inl (by omega))).trans (hpre j hj)
  have hlen : u.length = ws.length + 14 := hp.1.trans hlen
  have hX := hp.2.2
  obtain ⟨RX3, eRX3⟩ : ∃ z_, z_ = va_up RX2 0 (wr_f (wn_uw (nI (wf_k bits)) 0 (RX2 0)) (RX2 0) n) := ⟨_, rfl⟩
  rw [← eRX3] at hX
  have f3 : ∀ i, i < n → RX3 0 i = wn_uw (nI (wf_k bits)) 0 (RX2 0) i := fun i hi => by rw [eRX3]; simp only [va_up, if_pos]; rw [wr_fl _ _ hi]
  refine lv_iload hx hb dL_law_575 (lv_at hl 0 rfl) ?_
  refine lv_icmp_ne (tgt := 590) hx hb dL_law_577 (by decide) (fun q_ => absurd rfl q_) (fun _ => ?_)
  refine lv_aload_n hx hb dL_law_580 rfl (lv_at hl 7 rfl) ?_
  refine lv_iconst (v := 0) hx hb dL_law_581 (by decide) ?_
  refine lv_iload hx hb dL_law_582 (lv_at hl 2 rfl) ?_
  refine wr_calli0 hD hS hA (va_runV (As := [.int 0, .int bits]) (rest := []) ⟨hx, hb, hml, hown, hts⟩ (f_down l D dI dF _ H.size _ _ _ _ _ hX hn1 hn2 0 0 (by decide) (by decide) bits) (cwV 2 hts (lw_V q63 q64 q65 q1 q66) rfl rfl rfl (by decide +kernel) ⟨Nat.le_of_ble_eq_true rfl, Nat.le_of_ble_eq_true rfl⟩) (wf_preV hX hP hK hD) rfl rfl hl.1 rfl (lv_room (Nat.le_of_ble_eq_true rfl)) dL_law_584 ⟨Nat.le_of_ble_eq_true rfl, Nat.le_of_ble_eq_true rfl⟩) (fun r_ u H locs hp hP hD hS => ?_)
  obtain ⟨hr_, hp⟩ := hp
  have hdn : wn_su (wn_nx n 0 (RX3 0) 0) (-(nI (wf_k bits))) = 0 := by rw [show wn_nx n 0 (RX3 0) 0 = RX3 0 0 from if_pos (by omega), f3 0 (by omega)]; exact lw_ud0 hkk.1 (by omega) _
  rw [hdn] at hr_
  subst hr_
  have hY := wf_keep hp hY (by omega)
  have hpre : ∀ j, j < ws.length → u[j]? = ws[j]? := fun j hj => (hp.2.1 j (Or.inl (by omega))).trans (hpre j hj)
  have hlen : u.length = ws.length + 14 := hp.1.trans hlen
  have hX := hp.2.2
  obtain ⟨RX4, eRX4⟩ : ∃ z_, z_ = va_up RX3 0 (wr_f (wn_ow (nI (wf_k bits)) 0 (RX3 0) n) (RX3 0) n) := ⟨_, rfl⟩
  rw [← eRX4] at hX
  have f4 : ∀ i, i < n → RX4 0 i = wn_ow (nI (wf_k bits)) 0 (RX3 0) n i := fun i hi => by rw [eRX4]; simp only [va_up, if_pos]; rw [wr_fl _ _ hi]
  have y0 : ∀ i, i < n → RX2 0 i = RY 0 i := fun i hi => by rw [x20]; exact (hRX 0 i (by decide) hi).trans (hRY 0 i (by decide) hi).symm
  have g4 : ∀ i, i + 1 < n → RX4 0 i = RY 0 i := fun i hi => by
    rw [f4 i (by omega), ← y0 i (by omega)]
    show wn_ur (RX3 0 i) (nI (wf_k bits)) ||| wn_su (wn_nx n 0 (RX3 0) (i + 1)) (-(nI (wf_k bits))) = _
    rw [show wn_nx n 0 (RX3 0) (i + 1) = RX3 0 (i + 1) from if_pos hi, f3 i (by omega), f3 (i + 1) hi]
    exact lw_ud hkk.1 (by omega) (RX2 0 i) (wn_pv 0 (RX2 0) i) (RX2 0 (i + 1))
  have g5 : RX4 0 (n - 1) = RY 0 (n - 1) &&& wn_ur (-1) (nI (wf_k bits)) := by
    rw [f4 (n - 1) (by omega), ← y0 (n - 1) (by omega)]
    show wn_ur (RX3 0 (n - 1)) (nI (wf_k bits)) ||| wn_su (wn_nx n 0 (RX3 0) (n - 1 + 1)) (-(nI (wf_k bits))) = _
    rw [show wn_nx n 0 (RX3 0) (n - 1 + 1) = 0 from if_neg (by omega), f3 (n - 1) (by omega)]
    exact lw_udt hkk.1 (by omega) (RX2 0 (n - 1)) (wn_pv 0 (RX2 0) (n - 1))
  refine lv_if_eq (tgt := 592) hx hb dL_law_587 (by decide) (fun _ => ?_) (fun q_ => absurd rfl q_)
  refine lv_iconst (v := nI 0) hx hb dL_law_592 (by decide) ?_
  refine lv_istore (lv' := [(9, .int (nI 0)), (8, .int (wn_ur (wn_pv 0 (RX2 0) n) (-(nI (wf_k bits))))), (7, .int (nI (wf_k bits))), (6, .int bits), (5, .int (nI cwX2)), (4, .int (nI cy)), (0, .ref b), (1, .int (nI n)), (2, .ref qX), (3, .ref qY)]) hx hb dL_law_593 hl (by decide) rfl (fun ls hl => ?_)
  have loop9 : (∀ (H : Heap) (locs : List Loc) (ls : Array Slot), va_P D vwCl u H → va_D A u → va_S A s.heap H locs → lv_has ls 18 [(9, .int (nI (n - 1))), (7, .int (nI (wf_k bits))), (0, .ref b), (1, .int (nI n)), (2, .ref qX), (3, .ref qY)] → W p l e room_1 s m #[Value.ref b] below meth c H locs 40 425 (lw_Z below #[Value.ref b] s) (F0 m 628 ls [])) → ∀ (k_i i : Nat) (H : Heap) (locs : List Loc) (ls : Array Slot), i + k_i = (n - 1) → va_P D vwCl u H → va_D A u → va_S A s.heap H locs → lv_has ls 18 [(9, .int (nI i)), (7, .int (nI (wf_k bits))), (0, .ref b), (1, .int (nI n)), (2, .ref qX), (3, .ref qY)] → W p l e room_1 s m #[Value.ref b] below meth c H locs 40 425 (lw_Z below #[Value.ref b] s) (F0 m 595 ls []) := by
    intro kx_i k_i
    induction k_i with
    | zero =>
      intro i H locs ls hik hP hD hS hl
      have hin : i = (n - 1) := by omega
      rw [hin] at hl
      refine lv_iload hx hb dL_law_595 (lv_at hl 0 rfl) ?_
      refine lv_iload_n hx hb dL_law_597 rfl (lv_at hl 3 rfl) ?_
      refine lv_iconst (v := nI 1) hx hb dL_law_598 (by decide) ?_
      refine lv_isub hx hb dL_law_599 ?_
      refine wr_topi (nI (n - 1)) (pk_sub hn1) ?_
      refine lv_icmp_ge (tgt := 628) hx hb dL_law_600 (by decide) (fun _ => ?_) (fun q_ => absurd (nI_le (Nat.le_refl _) (by omega)) q_)
      exact kx_i H locs ls hP hD hS (lv_sub hl [0, 1, 2, 3, 4, 5] rfl)
    | succ k_i ih_i =>
      intro i H locs ls hik hP hD hS hl
      have hi : i < (n - 1) := by omega
      refine lv_iload hx hb dL_law_595 (lv_at hl 0 rfl) ?_
      refine lv_iload_n hx hb dL_law_597 rfl (lv_at hl 3 rfl) ?_
      refine lv_iconst (v := nI 1) hx hb dL_law_598 (by decide) ?_
      refine lv_isub hx hb dL_law_599 ?_
      refine wr_topi (nI (n - 1)) (pk_sub hn1) ?_
      refine lv_icmp_ge (tgt := 628) hx hb dL_law_600 (by decide) (fun q_ => absurd q_ (nI_ge hi (by omega))) (fun _ => ?_)
      refine lv_aload_n hx hb dL_law_603 rfl (lv_at hl 4 rfl) ?_
      refine lv_iconst (v := 0) hx hb dL_law_604 (by decide) ?_
      refine lv_iload hx hb dL_law_605 (lv_at hl 0 rfl) ?_
      refine wr_calli0 hD hS hA (va_runV (As := [.int 0, .int (nI i)]) (rest := []) ⟨hx, hb, hml, hown, hts⟩ (f_wordN l D dI dF _ H.size _ _ _ _ _ hX hn1 hn2 _ 0 (by decide) (by decide) (i) (by omega)) (cwV 2 hts (lw_V q3 q4 q5 q1 q6) rfl rfl rfl (by decide +kernel) ⟨Nat.le_of_ble_eq_true rfl, Nat.le_of_ble_eq_true rfl⟩) (wf_preV hX hP hK hD) rfl rfl hl.1 rfl (lv_room (Nat.le_of_ble_eq_true rfl)) dL_law_607 ⟨Nat.le_of_ble_eq_true rfl, Nat.le_of_ble_eq_true rfl⟩) (fun r_ u_ H locs hp hP hD hS => ?_)
      subst hp
      refine lv_aload_n hx hb dL_law_610 rfl (lv_at hl 5 rfl) ?_
      refine lv_iconst (v := 0) hx hb dL_law_611 (by decide) ?_
      refine lv_iload hx hb dL_law_612 (lv_at hl 0 rfl) ?_
      refine wr_calli0 hD hS hA (va_runV (As := [.int 0, .int (nI i)]) (rest := [.int (RX4 0 (i))]) ⟨hx, hb, hml, hown, hts⟩ (f_wordN l D dI dF _ H.size _ _ _ _ _ hY hn1 hn2 _ 0 (by decide) (by decide) (i) (by omega)) (cwV 2 hts (lw_V q3 q4 q5 q1 q6) rfl rfl rfl (by decide +kernel) ⟨Nat.le_of_ble_eq_true rfl, Nat.le_of_ble_eq_true rfl⟩) (wf_preV hY hP hK hD) rfl rfl hl.1 rfl (lv_room (Nat.le_of_ble_eq_true rfl)) dL_law_614 ⟨Nat.le_of_ble_eq_true rfl, Nat.le_of_ble_eq_true rfl⟩) (fun r_ u_ H locs hp hP hD hS => ?_)
      subst hp
      refine lv_icmp_eq (tgt := 622) hx hb dL_law_617 (by decide) (fun _ => ?_) (fun q_ => absurd (g4 i (by omega)) q_)
      refine lv_iinc (v := nI (i + 1)) (lv' := [(9, .int (nI (i + 1))), (7, .int (nI (wf_k bits))), (0, .ref b), (1, .int (nI n)), (2, .ref qX), (3, .ref qY)]) hx hb dL_law_622 hl (k := 0) rfl (wn_inc i) (by decide) rfl (fun ls hl => ?_)
      refine lv_goto (tgt := 595) hx hb dL_law_625 (by decide) ?_
      exact ih_i (i + 1) H locs ls (by omega) hP hD hS (lv_sub hl [0, 1, 2, 3, 4, 5] rfl)
  refine loop9 ?_ ((n - 1)) 0 H locs ls (by omega) hP hD hS (lv_sub hl [0, 2, 6, 7, 8, 9] rfl)
  clear loop9
  intro H locs ls hP hD hS hl
  refine lv_aload_n hx hb dL_law_628 rfl (lv_at hl 4 rfl) ?_
  refine lv_iconst (v := 0) hx hb dL_law_629 (by decide) ?_
  refine lv_iload_n hx hb dL_law_630 rfl (lv_at hl 3 rfl) ?_
  refine lv_iconst (v := nI 1) hx hb dL_law_631 (by decide) ?_
  refine lv_isub hx hb dL_law_632 ?_
  refine wr_topi (nI (n - 1)) (pk_sub hn1) ?_
  refine wr_calli0 hD hS hA (va_runV (As := [.int 0, .int (nI (n - 1))]) (rest := []) ⟨hx, hb, hml, hown, hts⟩ (f_wordN l D dI dF _ H.size _ _ _ _ _ hX hn1 hn2 _ 0 (by decide) (by decide) (n - 1) (by omega)) (cwV 2 hts (lw_V q3 q4 q5 q1 q6) rfl rfl rfl (by decide +kernel) ⟨Nat.le_of_ble_eq_true rfl, Nat.le_of_ble_eq_true rfl⟩) (wf_preV hX hP hK hD) rfl rfl hl.1 rfl (lv_room (Nat.le_of_ble_eq_true rfl)) dL_law_633 ⟨Nat.le_of_ble_eq_true rfl, Nat.le_of_ble_eq_true rfl⟩) (fun r_ u_ H locs hp hP hD hS => ?_)
  subst hp
  refine lv_aload_n hx hb dL_law_636 rfl (lv_at hl 5 rfl) ?_
  refine lv_iconst (v := 0) hx hb dL_law_637 (by decide) ?_
  refine lv_iload_n hx hb dL_law_638 rfl (lv_at hl 3 rfl) ?_
  refine lv_iconst (v := nI 1) hx hb dL_law_639 (by decide) ?_
  refine lv_isub hx hb dL_law_640 ?_
  refine wr_topi (nI (n - 1)) (pk_sub hn1) ?_
  refine wr_calli0 hD hS hA (va_runV (As := [.int 0, .int (nI (n - 1))]) (rest := [.int (RX4 0 (n - 1))]) ⟨hx, hb, hml, hown, hts⟩ (f_wordN l D dI dF _ H.size _ _ _ _ _ hY hn1 hn2 _ 0 (by decide) (by decide) (n - 1) (by omega)) (cwV 2 hts (lw_V q3 q4 q5 q1 q6) rfl rfl rfl (by decide +kernel) ⟨Nat.le_of_ble_eq_true rfl, Nat.le_of_ble_eq_true rfl⟩) (wf_preV hY hP hK hD) rfl rfl hl.1 rfl (lv_room (Nat.le_of_ble_eq_true rfl)) dL_law_641 ⟨Nat.le_of_ble_eq_true rfl, Nat.le_of_ble_eq_true rfl⟩) (fun r_ u_ H locs hp hP hD hS => ?_)
  subst hp
  refine lv_iconst (v := (-1)) hx hb dL_law_644 (by decide) ?_
  refine lv_iload hx hb dL_law_645 (lv_at hl 1 rfl) ?_
  refine lv_iushr (v := wn_ur (-1) (nI (wf_k bits))) hx hb dL_law_647 (rfl) ?_
  refine lv_iand hx hb dL_law_648 ?_
  refine lv_icmp_eq (tgt := 654) hx hb dL_law_649 (by decide) (fun _ => ?_) (fun q_ => absurd g5 q_)
  refine lv_aload_n hx hb dL_law_654 rfl (lv_at hl 4 rfl) ?_
  refine lv_iconst (v := 1) hx hb dL_law_655 (by decide) ?_
  refine wr_calli0 hD hS hA (va_runV (As := [.int 1]) (rest := []) ⟨hx, hb, hml, hown, hts⟩ (f_more l D dI dF _ H.size _ _ _ _ _ hX hn1 hn2 1 1 (by decide) (by decide)) (cwV 1 hts (lw_V q70 q71 q72 q1 q73) rfl rfl rfl (by decide +kernel) ⟨Nat.le_of_ble_eq_true rfl, Nat.le_of_ble_eq_true rfl⟩) (wf_preV hX hP hK hD) rfl rfl hl.1 rfl (lv_room (Nat.le_of_ble_eq_true rfl)) dL_law_656 ⟨Nat.le_of_ble_eq_true rfl, Nat.le_of_ble_eq_true rfl⟩) (fun r_ u H locs hp hP hD hS => ?_)
  obtain ⟨hr_, hp⟩ := hp
  subst hr_
  have hY := wf_keep hp hY (by omega)
  have hpre : ∀ j, j < ws.length → u[j]? = ws[j]? := fun j hj => (hp.2.1 j (Or.inl (by omega))).trans (hpre j hj)
  have hlen : u.length = ws.length + 14 := hp.1.trans hlen
  have hX := hp.2.2
  obtain ⟨RX5, eRX5⟩ : ∃ z_, z_ = va_up RX4 1 (wr_f (wn_iw (RX4 1)) (RX4 1) n) := ⟨_, rfl⟩
  rw [← eRX5] at hX
  refine lv_istore (lv' := [(9, .int (wn_ig (RX4 1) n)), (7, .int (nI (wf_k bits))), (0, .ref b), (1, .int (nI n)), (2, .ref qX), (3, .ref qY)]) hx hb dL_law_659 hl (by decide) rfl (fun ls hl => ?_)
  have f5 : ∀ i, i < n → RX5 1 i = wn_iw (RX4 1) i := fun i hi => by rw [eRX5]; simp only [va_up, if_pos]; rw [wr_fl _ _ hi]
  refine lv_aload_n hx hb dL_law_661 rfl (lv_at hl 4 rfl) ?_
  refine lv_iconst (v := 1) hx hb dL_law_662 (by decide) ?_
  refine wr_calli0 hD hS hA (va_runV (As := [.int 1]) (rest := []) ⟨hx, hb, hml, hown, hts⟩ (f_less l D dI dF _ H.size _ _ _ _ _ hX hn1 hn2 1 1 (by decide) (by decide)) (cwV 1 hts (lw_V q77 q78 q79 q1 q80) rfl rfl rfl (by decide +kernel) ⟨Nat.le_of_ble_eq_true rfl, Nat.le_of_ble_eq_true rfl⟩) (wf_preV hX hP hK hD) rfl rfl hl.1 rfl (lv_room (Nat.le_of_ble_eq_true rfl)) dL_law_663 ⟨Nat.le_of_ble_eq_true rfl, Nat.le_of_ble_eq_true rfl⟩) (fun r_ u H locs hp hP hD hS => ?_)
  obtain ⟨hr_, hp⟩ := hp
  rw [lw_dg_congr f5 n (Nat.le_refl n), wn_id] at hr_
  subst hr_
  have hY := wf_keep hp hY (by omega)
  have hpre : ∀ j, j < ws.length → u[j]? = ws[j]? := fun j hj => (hp.2.1 j (Or.inl (by omega))).trans (hpre j hj)
  have hlen : u.length = ws.length + 14 := hp.1.trans hlen
  have hX := hp.2.2
  obtain ⟨RX6, eRX6⟩ : ∃ z_, z_ = va_up RX5 1 (wr_f (wn_dw (RX5 1)) (RX5 1) n) := ⟨_, rfl⟩
  rw [← eRX6] at hX
  refine lv_istore (lv' := [(10, .int (-(wn_ig (RX4 1) n))), (9, .int (wn_ig (RX4 1) n)), (7, .int (nI (wf_k bits))), (0, .ref b), (1, .int (nI n)), (2, .ref qX), (3, .ref qY)]) hx hb dL_law_666 hl (by decide) rfl (fun ls hl => ?_)
  have f6 : ∀ i, i < n → RX6 1 i = RY 1 i := fun i hi => by
    rw [eRX6]
    simp only [va_up, if_pos]
    rw [wr_fl _ _ hi, lw_dw_congr f5 hi, wn_idw, eRX4]
    show RX3 1 i = _
    rw [eRX3]
    show RX2 1 i = _
    rw [x21]
    exact (hRX 1 i (by decide) hi).trans (hRY 1 i (by decide) hi).symm
  refine lv_iload hx hb dL_law_668 (lv_at hl 1 rfl) ?_
  refine lv_iload hx hb dL_law_670 (lv_at hl 0 rfl) ?_
  refine lv_ineg hx hb dL_law_672 ?_
  refine lv_icmp_ne (tgt := 712) hx hb dL_law_673 (by decide) (fun q_ => absurd Int32.neg_neg.symm q_) (fun _ => ?_)
  refine lv_aload_n hx hb dL_law_676 rfl (lv_at hl 5 rfl) ?_
  refine lv_iconst (v := 1) hx hb dL_law_677 (by decide) ?_
  refine lv_aload_n hx hb dL_law_678 rfl (lv_at hl 6 rfl) ?_
  refine lv_iconst (v := 1) hx hb dL_law_679 (by decide) ?_
  refine lv_iload_n hx hb dL_law_680 rfl (lv_at hl 4 rfl) ?_
  refine wr_calli0 hD hS hA (va_runS (As := [.ref qX, .int 1, .ref qY, .int 1, .int (nI n)]) (rest := []) ⟨hx, hb, hml, hown, hts⟩ (c_same l D dI dF _ H.size _ _ _ _ n _ _ _ _ hX hY hn1 hn2 1 1 (by decide) (by decide) 1 1 (by decide) (by decide) (f6)) (va_cwS 5 hts (lw_S q131 q132 q0 q133) rfl rfl rfl (by decide +kernel) ⟨Nat.le_of_ble_eq_true rfl, Nat.le_of_ble_eq_true rfl⟩) (wr_preS hP hK hD) rfl rfl hl.1 rfl (lv_room (Nat.le_of_ble_eq_true rfl)) dL_law_681 ⟨Nat.le_of_ble_eq_true rfl, Nat.le_of_ble_eq_true rfl⟩) (fun r_ u_ H locs hp hP hD hS => ?_)
  subst hp
  refine lv_if_eq (tgt := 712) hx hb dL_law_684 (by decide) (fun q_ => absurd q_ (by decide)) (fun _ => ?_)
  refine lv_aload_n hx hb dL_law_687 rfl (lv_at hl 3 rfl) ?_
  refine wr_calli hD hS hA (va_runS (As := [.ref b]) (rest := []) ⟨hx, hb, hml, hown, hts⟩ (c_added l D dI dF _ H.size b L xs hL) (va_cwS 1 hts (lw_S q137 q138 q0 q139) rfl rfl rfl (by decide +kernel) ⟨Nat.le_of_ble_eq_true rfl, Nat.le_of_ble_eq_true rfl⟩) (wr_preX hX0 hbl hbA hP hK hD hS) rfl rfl hl.1 rfl (lv_room (Nat.le_of_ble_eq_true rfl)) dL_law_688 ⟨Nat.le_of_ble_eq_true rfl, Nat.le_of_ble_eq_true rfl⟩) (fun r_ u_ H locs hp hP hD hS => ?_)
  subst hp
  refine lv_if_eq (tgt := 712) hx hb dL_law_691 (by decide) (fun q_ => absurd q_ (by decide)) (fun _ => ?_)
  refine lv_aload_n hx hb dL_law_694 rfl (lv_at hl 3 rfl) ?_
  refine wr_calli hD hS hA (va_runS (As := [.ref b]) (rest := []) ⟨hx, hb, hml, hown, hts⟩ (c_steps l D dI dF _ H.size b L xs hL) (va_cwS 1 hts (lw_S q150 q151 q0 q152) rfl rfl rfl (by decide +kernel) ⟨Nat.le_of_ble_eq_true rfl, Nat.le_of_ble_eq_true rfl⟩) (wr_preX hX0 hbl hbA hP hK hD hS) rfl rfl hl.1 rfl (lv_room (Nat.le_of_ble_eq_true rfl)) dL_law_695 ⟨Nat.le_of_ble_eq_true rfl, Nat.le_of_ble_eq_true rfl⟩) (fun r_ u_ H locs hp hP hD hS => ?_)
  subst hp
  refine lv_if_eq (tgt := 712) hx hb dL_law_698 (by decide) (fun q_ => absurd q_ (by decide)) (fun _ => ?_)
  refine lv_aload_n hx hb dL_law_701 rfl (lv_at hl 3 rfl) ?_
  refine wr_calli hD hS hA (va_runS (As := [.ref b]) (rest := []) ⟨hx, hb, hml, hown, hts⟩ (c_places l D dI dF _ H.size b L xs hL) (va_cwS 1 hts (lw_S q154 q155 q0 q156) rfl rfl rfl (by decide +kernel) ⟨Nat.le_of_ble_eq_true rfl, Nat.le_of_ble_eq_true rfl⟩) (wr_preX hX0 hbl hbA hP hK hD hS) rfl rfl hl.1 rfl (lv_room (Nat.le_of_ble_eq_true rfl)) dL_law_702 ⟨Nat.le_of_ble_eq_true rfl, Nat.le_of_ble_eq_true rfl⟩) (fun r_ u_ H locs hp hP hD hS => ?_)
  subst hp
  refine lv_if_eq (tgt := 712) hx hb dL_law_705 (by decide) (fun q_ => absurd q_ (by decide)) (fun _ => ?_)
  refine lv_iconst (v := 1) hx hb dL_law_708 (by decide) ?_
  refine lv_goto (tgt := 713) hx hb dL_law_709 (by decide) ?_
  refine va_forget (fun q hq => hAB _ (hS.2.2 q hq)) ?_
  refine W.widen (k := 1200000) (n := 5502250) (Nat.le_of_ble_eq_true rfl) (Nat.le_of_ble_eq_true rfl) ?_
  exact lw_ret hx hb hr hlocks dL_law_713
end
section
/-! WholeFileLaw: law, its first block -/
set_option maxRecDepth 100000
set_option maxHeartbeats 4000000 in
set_option maxRecDepth 100000 in
/-- the law from its entry to 307: the product and the sum, worked out by hand -/
theorem lw_lawA {p : Program} {l : Launch} {e : Env} {s : State} {m : MethodId} {below : List Frame} {meth : Method} {c : Code} {D : va_G} {dI dF : ClassId} {A : Nat → Prop} {b L : Nat} {xs : Nat → Int32} (hx : p.tables.exec = Jvm.exec) (hb : c.code = cL_law) (hr : meth.sig.returnType = ret) (hlocks : meth.locks = false) (hml : c.maxLocals = 18) (hown : s.vm.findClass RX0 = some m.cls) (hts : ∀ w ∈ lw_all, w.before #[Value.ref b] s = true) (hX0 : va_X b L xs s s.heap) (hbl : b < s.heap.size) (hbA : ¬ A b) (hL : L < 2 ^ 31) (hA : ∀ q, s.heap.size ≤ q → A q) (hAB : ∀ q, A q → s.heap.size ≤ q) (hK : wr_K D dI dF s) (ws : va_W) (H : Heap) (locs : List Loc) (hP : va_P D vwCl ws H) (hD : va_D A ws) (hS : va_S A s.heap H locs) (ls : Array Slot) (hl : lv_has ls 18 [(0, .ref b)]) : W p l e room_1 s m #[Value.ref b] below meth c H locs 0 0 (lw_Z below #[Value.ref b] s) (F0 m 0 ls []) := by
  obtain ⟨n, hn⟩ : ∃ n, n = lw_N L xs := ⟨_, rfl⟩
  obtain ⟨hn1, hn2⟩ := lw_N_in hn
  have hB : n < 2 ^ 31 := by omega
  have hB2 : n + n < 2 ^ 31 := by omega
  refine lv_aload_n hx hb dL_law_0 rfl (lv_at hl 0 rfl) ?_
  refine wr_callr hD hS hA (va_runS (As := [.ref b]) (rest := []) ⟨hx, hb, hml, hown, hts⟩ (c_three l D dI dF _ H.size b L xs hL n hn) (va_cwS 1 hts (lw_S q99 q100 q0 q101) rfl rfl rfl (by decide +kernel) ⟨Nat.le_of_ble_eq_true rfl, Nat.le_of_ble_eq_true rfl⟩) (wr_preX hX0 hbl hbA hP hK hD hS) rfl rfl hl.1 rfl (lv_room (Nat.le_of_ble_eq_true rfl)) dL_law_1 ⟨Nat.le_of_ble_eq_true rfl, Nat.le_of_ble_eq_true rfl⟩) (fun u qV H locs hp hP hD hS => ?_)
  obtain ⟨hl_, hp_, RV, wV, hV, hRV⟩ := hp
  have hpre : ∀ j, j < ws.length → u[j]? = ws[j]? := hp_
  have hlen : u.length = ws.length + 7 := hl_
  refine lv_astore_n (lv' := [(1, .ref qV), (0, .ref b)]) hx hb dL_law_4 rfl hl (by decide) rfl (fun ls hl => ?_)
  refine lv_iconst (v := nI 1) hx hb dL_law_5 (by decide) ?_
  refine lv_aload_n hx hb dL_law_6 rfl (lv_at hl 1 rfl) ?_
  refine lv_iconst (v := nI 0) hx hb dL_law_7 (by decide) ?_
  refine wr_calli0 hD hS hA (va_runS (As := [.ref b, .int (nI 0)]) (rest := [.int (nI 1)]) ⟨hx, hb, hml, hown, hts⟩ (c_cell l D dI dF _ H.size b L xs (0) (by decide) hL) (va_cwS 2 hts (lw_S q96 q97 q0 q98) rfl rfl rfl (by decide +kernel) ⟨Nat.le_of_ble_eq_true rfl, Nat.le_of_ble_eq_true rfl⟩) (wr_preX hX0 hbl hbA hP hK hD hS) rfl rfl hl.1 rfl (lv_room (Nat.le_of_ble_eq_true rfl)) dL_law_8 ⟨Nat.le_of_ble_eq_true rfl, Nat.le_of_ble_eq_true rfl⟩) (fun r_ u_ H locs hp hP hD hS => ?_)
  subst hp
  refine lv_bipush (v := 15) hx hb dL_law_11 (by decide) ?_
  refine lv_iand hx hb dL_law_13 ?_
  refine wr_topi (nI (wn_w (lw_cl L xs 0) % 16)) (wf_and15 _) ?_
  refine lv_iadd hx hb dL_law_14 ?_
  refine wr_topi (nI n) (by rw [nI_add, hn]; rfl) ?_
  refine lv_istore_n (lv' := [(2, .int (nI n)), (1, .ref qV), (0, .ref b)]) hx hb dL_law_15 rfl hl (by decide) rfl (fun ls hl => ?_)
  have vV0 : wn_v (wn_d (RV 0)) n = wn_v (wn_d (lw_T L xs 0)) n := lw_val (fun j hj => hRV 0 j (by decide) hj)
  have vV1 : wn_v (wn_d (RV 1)) n = wn_v (wn_d (lw_T L xs 1)) n := lw_val (fun j hj => hRV 1 j (by decide) hj)
  refine lv_aload_n hx hb dL_law_16 rfl (lv_at hl 1 rfl) ?_
  refine lv_iconst (v := 0) hx hb dL_law_17 (by decide) ?_
  refine lv_iconst (v := 1) hx hb dL_law_18 (by decide) ?_
  refine wr_callv0 hD hS hA (va_runV (As := [.int 0, .int 1]) (rest := []) ⟨hx, hb, hml, hown, hts⟩ (f_multiply l D dI dF _ H.size _ _ _ _ _ hV hn1 hn2 0 0 (by decide) (by decide) 1 1 (by decide) (by decide)) (cwV 2 hts (lw_V q22 q23 q24 q1 q25) rfl rfl rfl (by decide +kernel) ⟨Nat.le_of_ble_eq_true rfl, Nat.le_of_ble_eq_true rfl⟩) (wf_preV hV hP hK hD) rfl rfl hl.1 rfl (lv_room (Nat.le_of_ble_eq_true rfl)) dL_law_19 ⟨Nat.le_of_ble_eq_true rfl, Nat.le_of_ble_eq_true rfl⟩) (fun u H locs hp hP hD hS => ?_)
  obtain ⟨wV1, hwV1, hp⟩ := hp
  have hpre : ∀ j, j < ws.length → u[j]? = ws[j]? := fun j hj => (hp.2.1 j (Or.inl (by omega))).trans (hpre j hj)
  have hlen : u.length = ws.length + 7 := hp.1.trans hlen
  have hV := hp.2.2
  refine lv_iconst (v := nI 2) hx hb dL_law_22 (by decide) ?_
  refine lv_iload_n hx hb dL_law_23 rfl (lv_at hl 0 rfl) ?_
  refine lv_imul hx hb dL_law_24 ?_
  refine wr_topi (nI (n + n)) (by rw [pk_mul, show 2 * n = n + n by omega]) ?_
  refine wr_newl hx hb (hts _ q159) hK hP hD hS hA (k := n + n) (by omega) (Nat.le_of_ble_eq_true rfl) (show 0 + 131 + (n + n) ≤ 5502250 by omega) dL_law_25 (fun qR dL H hKL hP hD hS => ?_)
  refine W.widen (k := 14) (n := 163) (Nat.le_of_ble_eq_true rfl) (show 0 + 131 + (n + n) ≤ 163 by omega) ?_
  have hP : va_P D vwCl (u ++ [lw_cL dL qR (n + n) (lw_row (fun _ => 0))]) H := hP
  have hD : va_D A (u ++ [lw_cL dL qR (n + n) (lw_row (fun _ => 0))]) := hD
  have gR : (u ++ [lw_cL dL qR (n + n) (lw_row (fun _ => 0))])[ws.length + 7]? = some (lw_cL dL qR (n + n) (lw_row (fun _ => 0))) := by rw [← hlen]; exact lw_getlast u _
  have hV : wf_at dI dF (u ++ [lw_cL dL qR (n + n) (lw_row (fun _ => 0))]) ws.length qV n RV wV1 := wf_mono hV (fun j _ h8 => List.getElem?_append_left (by omega))
  have hlen : (u ++ [lw_cL dL qR (n + n) (lw_row (fun _ => 0))]).length = ws.length + 8 := by rw [List.length_append, hlen]; rfl
  refine lv_astore_n (lv' := [(3, .ref qR), (2, .int (nI n)), (1, .ref qV), (0, .ref b)]) hx hb dL_law_27 rfl hl (by decide) rfl (fun ls hl => ?_)
  refine lv_iconst (v := nI 0) hx hb dL_law_28 (by decide) ?_
  refine lv_istore (lv' := [(4, .int (nI 0)), (3, .ref qR), (2, .int (nI n)), (1, .ref qV), (0, .ref b)]) hx hb dL_law_29 hl (by decide) rfl (fun ls hl => ?_)
  have loopO : (∀ (u : va_W) (Z : Nat → Int32) (H : Heap) (locs : List Loc) (ls : Array Slot), (wn_v (wn_d Z) (n + n) = wn_v (wn_d (lw_T L xs 0)) n * wn_v (wn_d (lw_T L xs 1)) n) → u.length = ws.length + 8 → u[ws.length + 7]? = some (lw_cL dL qR (n + n) (lw_row Z)) → wf_at dI dF u ws.length qV n RV wV1 → va_P D vwCl u H → va_D A u → va_S A s.heap H locs → lv_has ls 18 [(4, .int (nI n)), (0, .ref b), (1, .ref qV), (2, .int (nI n)), (3, .ref qR)] → W p l e room_1 s m #[Value.ref b] below meth c H locs 14 163 (lw_Z below #[Value.ref b] s) (F0 m 182 ls [])) → ∀ (k i : Nat) (u : va_W) (Z : Nat → Int32) (H : Heap) (locs : List Loc) (ls : Array Slot), i + k = n → (wn_v (wn_d Z) (i + n) = wn_v (wn_d (lw_T L xs 0)) i * wn_v (wn_d (lw_T L xs 1)) n) → u.length = ws.length + 8 → u[ws.length + 7]? = some (lw_cL dL qR (n + n) (lw_row Z)) → wf_at dI dF u ws.length qV n RV wV1 → va_P D vwCl u H → va_D A u → va_S A s.heap H locs → lv_has ls 18 [(4, .int (nI i)), (0, .ref b), (1, .ref qV), (2, .int (nI n)), (3, .ref qR)] → W p l e room_1 s m #[Value.ref b] below meth c H locs 14 163 (lw_Z below #[Value.ref b] s) (F0 m 31 ls []) := by
    intro kx k
    induction k with
    | zero =>
      intro i u Z H locs ls hik hZ hlen gR hV hP hD hS hl
      have hin : i = n := by omega
      rw [hin] at hl hZ
      refine lv_iload hx hb dL_law_31 (lv_at hl 0 rfl) ?_
      refine lv_iload_n hx hb dL_law_33 rfl (lv_at hl 3 rfl) ?_
      refine lv_icmp_ge (tgt := 182) hx hb dL_law_34 (by decide) (fun _ => ?_) (fun q_ => absurd (nI_le (Nat.le_refl n) hB) q_)
      exact kx u Z H locs ls hZ hlen gR hV hP hD hS (lv_sub hl [0, 1, 2, 3, 4] rfl)
    | succ k ih =>
      intro i u Z H locs ls hik hZ hlen gR hV hP hD hS hl
      have hi : i < n := by omega
      refine lv_iload hx hb dL_law_31 (lv_at hl 0 rfl) ?_
      refine lv_iload_n hx hb dL_law_33 rfl (lv_at hl 3 rfl) ?_
      refine lv_icmp_ge (tgt := 182) hx hb dL_law_34 (by decide) (fun q_ => absurd q_ (nI_ge hi hB)) (fun _ => ?_)
      refine lv_lconst (v := lN 0) hx hb dL_law_37 (by decide) ?_
      refine lv_lstore (lv' := [(5, .long (lN 0)), (4, .int (nI i)), (0, .ref b), (1, .ref qV), (2, .int (nI n)), (3, .ref qR)]) hx hb dL_law_38 hl (by decide) rfl (fun ls hl => ?_)
      refine lv_aload_n hx hb dL_law_40 rfl (lv_at hl 2 rfl) ?_
      refine lv_iconst (v := nI 1) hx hb dL_law_41 (by decide) ?_
      refine lv_iload hx hb dL_law_42 (lv_at hl 1 rfl) ?_
      refine lv_iadd hx hb dL_law_44 ?_
      refine wr_topi (nI (1 + i)) (nI_add _ _) ?_
      refine wr_calli0 hD hS hA (va_runS (As := [.ref b, .int (nI (1 + i))]) (rest := []) ⟨hx, hb, hml, hown, hts⟩ (c_cell l D dI dF _ H.size b L xs (1 + i) (by omega) hL) (va_cwS 2 hts (lw_S q96 q97 q0 q98) rfl rfl rfl (by decide +kernel) ⟨Nat.le_of_ble_eq_true rfl, Nat.le_of_ble_eq_true rfl⟩) (wr_preX hX0 hbl hbA hP hK hD hS) rfl rfl hl.1 rfl (lv_room (Nat.le_of_ble_eq_true rfl)) dL_law_45 ⟨Nat.le_of_ble_eq_true rfl, Nat.le_of_ble_eq_true rfl⟩) (fun r_ u_ H locs hp hP hD hS => ?_)
      subst hp
      refine lv_i2l (v := ((lw_cl L xs (1 + i))).toInt64) hx hb dL_law_48 (rfl) ?_
      refine lv_ldc2 (v := 4294967295) hx hb hown (hts _ q140) dL_law_49 ?_
      refine lv_land hx hb dL_law_52 ?_
      refine wr_topl (lN (wn_w (lw_T L xs 0 i))) (wn_i2l _) ?_
      refine lv_lstore (lv' := [(7, .long (lN (wn_w (lw_T L xs 0 i)))), (5, .long (lN 0)), (4, .int (nI i)), (0, .ref b), (1, .ref qV), (2, .int (nI n)), (3, .ref qR)]) hx hb dL_law_53 hl (by decide) rfl (fun ls hl => ?_)
      refine lv_iconst (v := nI 0) hx hb dL_law_55 (by decide) ?_
      refine lv_istore (lv' := [(9, .int (nI 0)), (7, .long (lN (wn_w (lw_T L xs 0 i)))), (5, .long (lN 0)), (4, .int (nI i)), (0, .ref b), (1, .ref qV), (2, .int (nI n)), (3, .ref qR)]) hx hb dL_law_56 hl (by decide) rfl (fun ls hl => ?_)
      have hwi := wn_w_lt (lw_T L xs 0 i)
      have loopI : ∀ (k2 j : Nat) (u : va_W) (H : Heap) (locs : List Loc) (ls : Array Slot), j + k2 = n → u.length = ws.length + 8 → u[ws.length + 7]? = some (lw_cL dL qR (n + n) (lw_row (wr_g (wn_cw (wn_T (wn_w (lw_T L xs 0 i)) (lw_T L xs 1) Z i)) Z i j))) → wf_at dI dF u ws.length qV n RV wV1 → va_P D vwCl u H → va_D A u → va_S A s.heap H locs → lv_has ls 18 [(9, .int (nI j)), (5, .long (lN (wn_c (wn_T (wn_w (lw_T L xs 0 i)) (lw_T L xs 1) Z i) j))), (7, .long (lN (wn_w (lw_T L xs 0 i)))), (4, .int (nI i)), (0, .ref b), (1, .ref qV), (2, .int (nI n)), (3, .ref qR)] → W p l e room_1 s m #[Value.ref b] below meth c H locs 14 163 (lw_Z below #[Value.ref b] s) (F0 m 58 ls []) := by
        intro k2
        induction k2 with
        | zero =>
          intro j u H locs ls hjk hlen gR hV hP hD hS hl
          have hjn : j = n := by omega
          rw [hjn] at hl gR
          refine lv_iload hx hb dL_law_58 (lv_at hl 0 rfl) ?_
          refine lv_iload_n hx hb dL_law_60 rfl (lv_at hl 6 rfl) ?_
          refine lv_icmp_ge (tgt := 168) hx hb dL_law_61 (by decide) (fun _ => ?_) (fun q_ => absurd (nI_le (Nat.le_refl n) hB) q_)
          refine lv_aload_n hx hb dL_law_168 rfl (lv_at hl 7 rfl) ?_
          refine lv_iload hx hb dL_law_169 (lv_at hl 3 rfl) ?_
          refine lv_iload_n hx hb dL_law_171 rfl (lv_at hl 6 rfl) ?_
          refine lv_iadd hx hb dL_law_172 ?_
          refine wr_topi (nI (i + n)) (nI_add _ _) ?_
          refine lv_lload hx hb dL_law_173 (lv_at hl 1 rfl) ?_
          have hcn : wn_c (wn_T (wn_w (lw_T L xs 0 i)) (lw_T L xs 1) Z i) n < 4294967296 := wn_c_lt (wn_gT_le hwi _ _) n
          refine wr_topl (lN (wn_w (nI (wn_c (wn_T (wn_w (lw_T L xs 0 i)) (lw_T L xs 1) Z i) n)))) (by rw [wn_w_lt' hcn]) ?_
          refine wr_last hx hb hKL hP hD hS gR (show i + n < n + n by omega) (by omega) _ rfl dL_law_175 (fun H locs hP hD hS => ?_)
          rw [lw_rowU] at hP hD
          refine lv_iinc (v := nI (i + 1)) (lv' := [(4, .int (nI (i + 1))), (9, .int (nI n)), (5, .long (lN (wn_c (wn_T (wn_w (lw_T L xs 0 i)) (lw_T L xs 1) Z i) n))), (7, .long (lN (wn_w (lw_T L xs 0 i)))), (0, .ref b), (1, .ref qV), (2, .int (nI n)), (3, .ref qR)]) hx hb dL_law_176 hl (k := 3) rfl (wn_inc i) (by decide) rfl (fun ls hl => ?_)
          refine lv_goto (tgt := 31) hx hb dL_law_179 (by decide) ?_
          refine ih (i + 1) _ (upd (wr_g (wn_cw (wn_T (wn_w (lw_T L xs 0 i)) (lw_T L xs 1) Z i)) Z i n) (i + n) (nI (wn_c (wn_T (wn_w (lw_T L xs 0 i)) (lw_T L xs 1) Z i) n))) H locs ls (by omega) ?_ (by rw [List.length_set]; exact hlen) (wr_set_at gR) (wf_mono hV (fun j_ _ h8 => wr_set_ne (by omega))) hP hD hS (lv_sub hl [0, 4, 5, 6, 7] rfl)
          have h9 := wn_mul_step hwi (lw_T L xs 1) Z i n
          rw [hZ, wn_mul_next] at h9
          rw [show i + 1 + n = i + n + 1 by omega]
          exact h9
        | succ k2 ih2 =>
          intro j u H locs ls hjk hlen gR hV hP hD hS hl
          have hj : j < n := by omega
          refine lv_iload hx hb dL_law_58 (lv_at hl 0 rfl) ?_
          refine lv_iload_n hx hb dL_law_60 rfl (lv_at hl 6 rfl) ?_
          refine lv_icmp_ge (tgt := 168) hx hb dL_law_61 (by decide) (fun q_ => absurd q_ (nI_ge hj hB)) (fun _ => ?_)
          have hbj := wn_w_lt (lw_T L xs 1 j)
          have hzz := wn_w_lt (Z (i + j))
          have hcj : wn_c (wn_T (wn_w (lw_T L xs 0 i)) (lw_T L xs 1) Z i) j < 4294967296 := wn_c_lt (wn_gT_le hwi _ _) j
          obtain ⟨h1, h2, h3, h4, h5⟩ := lw_half hwi hbj hzz hcj
          refine lv_aload_n hx hb dL_law_64 rfl (lv_at hl 4 rfl) ?_
          refine lv_bipush (v := nI 17) hx hb dL_law_65 (by decide) ?_
          refine lv_iload hx hb dL_law_67 (lv_at hl 0 rfl) ?_
          refine lv_iadd hx hb dL_law_69 ?_
          refine wr_topi (nI (17 + j)) (nI_add _ _) ?_
          refine wr_calli0 hD hS hA (va_runS (As := [.ref b, .int (nI (17 + j))]) (rest := []) ⟨hx, hb, hml, hown, hts⟩ (c_cell l D dI dF _ H.size b L xs (17 + j) (by omega) hL) (va_cwS 2 hts (lw_S q96 q97 q0 q98) rfl rfl rfl (by decide +kernel) ⟨Nat.le_of_ble_eq_true rfl, Nat.le_of_ble_eq_true rfl⟩) (wr_preX hX0 hbl hbA hP hK hD hS) rfl rfl hl.1 rfl (lv_room (Nat.le_of_ble_eq_true rfl)) dL_law_70 ⟨Nat.le_of_ble_eq_true rfl, Nat.le_of_ble_eq_true rfl⟩) (fun r_ u_ H locs hp hP hD hS => ?_)
          subst hp
          refine lv_i2l (v := ((lw_cl L xs (17 + j))).toInt64) hx hb dL_law_73 (rfl) ?_
          refine lv_ldc2 (v := 4294967295) hx hb hown (hts _ q140) dL_law_74 ?_
          refine lv_land hx hb dL_law_77 ?_
          refine wr_topl (lN (wn_w (lw_T L xs 1 j))) (wn_i2l _) ?_
          refine lv_lstore (lv' := [(10, .long (lN (wn_w (lw_T L xs 1 j)))), (9, .int (nI j)), (5, .long (lN (wn_c (wn_T (wn_w (lw_T L xs 0 i)) (lw_T L xs 1) Z i) j))), (7, .long (lN (wn_w (lw_T L xs 0 i)))), (4, .int (nI i)), (0, .ref b), (1, .ref qV), (2, .int (nI n)), (3, .ref qR)]) hx hb dL_law_78 hl (by decide) rfl (fun ls hl => ?_)
          refine lv_lload hx hb dL_law_80 (lv_at hl 3 rfl) ?_
          refine lv_lload hx hb dL_law_82 (lv_at hl 0 rfl) ?_
          refine lv_ldc2 (v := 65535) hx hb hown (hts _ q158) dL_law_84 ?_
          refine lv_land hx hb dL_law_87 ?_
          refine wr_topl (lN ((wn_w (lw_T L xs 1 j)) % 65536)) (lw_m16 (by omega)) ?_
          refine lv_lmul hx hb dL_law_88 ?_
          refine wr_topl (lN ((wn_w (lw_T L xs 0 i)) * ((wn_w (lw_T L xs 1 j)) % 65536))) (lN_mul _ _) ?_
          refine lv_lstore (lv' := [(12, .long (lN ((wn_w (lw_T L xs 0 i)) * ((wn_w (lw_T L xs 1 j)) % 65536)))), (10, .long (lN (wn_w (lw_T L xs 1 j)))), (9, .int (nI j)), (5, .long (lN (wn_c (wn_T (wn_w (lw_T L xs 0 i)) (lw_T L xs 1) Z i) j))), (7, .long (lN (wn_w (lw_T L xs 0 i)))), (4, .int (nI i)), (0, .ref b), (1, .ref qV), (2, .int (nI n)), (3, .ref qR)]) hx hb dL_law_89 hl (by decide) rfl (fun ls hl => ?_)
          refine lv_lload hx hb dL_law_91 (lv_at hl 4 rfl) ?_
          refine lv_lload hx hb dL_law_93 (lv_at hl 1 rfl) ?_
          refine lv_bipush (v := 16) hx hb dL_law_95 (by decide) ?_
          refine lv_lushr (v := lN ((wn_w (lw_T L xs 1 j)) / 65536)) hx hb dL_law_97 (lw_sr16 (by omega)) ?_
          refine lv_lmul hx hb dL_law_98 ?_
          refine wr_topl (lN ((wn_w (lw_T L xs 0 i)) * ((wn_w (lw_T L xs 1 j)) / 65536))) (lN_mul _ _) ?_
          refine lv_lstore (lv' := [(14, .long (lN ((wn_w (lw_T L xs 0 i)) * ((wn_w (lw_T L xs 1 j)) / 65536)))), (12, .long (lN ((wn_w (lw_T L xs 0 i)) * ((wn_w (lw_T L xs 1 j)) % 65536)))), (10, .long (lN (wn_w (lw_T L xs 1 j)))), (9, .int (nI j)), (5, .long (lN (wn_c (wn_T (wn_w (lw_T L xs 0 i)) (lw_T L xs 1) Z i) j))), (7, .long (lN (wn_w (lw_T L xs 0 i)))), (4, .int (nI i)), (0, .ref b), (1, .ref qV), (2, .int (nI n)), (3, .ref qR)]) hx hb dL_law_99 hl (by decide) rfl (fun ls hl => ?_)
          refine lv_aload_n hx hb dL_law_101 rfl (lv_at hl 10 rfl) ?_
          refine lv_iload hx hb dL_law_102 (lv_at hl 6 rfl) ?_
          refine lv_iload hx hb dL_law_104 (lv_at hl 3 rfl) ?_
          refine lv_iadd hx hb dL_law_106 ?_
          refine wr_topi (nI (i + j)) (nI_add _ _) ?_
          refine wr_lald hx hb hKL hP gR (show i + j < n + n by omega) (by omega) dL_law_107 ?_
          refine wr_topl (lN (wn_w (Z (i + j)))) (by show lN (wn_w ((wr_g (wn_cw (wn_T (wn_w (lw_T L xs 0 i)) (lw_T L xs 1) Z i)) Z i j) (i + j))) = _; rw [wr_gi _ _ (Nat.le_refl j)]) ?_
          refine lv_lload hx hb dL_law_108 (lv_at hl 4 rfl) ?_
          refine lv_ladd hx hb dL_law_110 ?_
          refine wr_topl (lN ((wn_w (Z (i + j))) + (wn_c (wn_T (wn_w (lw_T L xs 0 i)) (lw_T L xs 1) Z i) j))) (lN_add _ _) ?_
          refine lv_lload hx hb dL_law_111 (lv_at hl 1 rfl) ?_
          refine lv_ldc2 (v := 4294967295) hx hb hown (hts _ q140) dL_law_113 ?_
          refine lv_land hx hb dL_law_116 ?_
          refine wr_topl (lN (((wn_w (lw_T L xs 0 i)) * ((wn_w (lw_T L xs 1 j)) % 65536)) % 4294967296)) (lw_m32 (by omega)) ?_
          refine lv_ladd hx hb dL_law_117 ?_
          refine wr_topl (lN ((wn_w (Z (i + j))) + (wn_c (wn_T (wn_w (lw_T L xs 0 i)) (lw_T L xs 1) Z i) j) + ((wn_w (lw_T L xs 0 i)) * ((wn_w (lw_T L xs 1 j)) % 65536)) % 4294967296)) (lN_add _ _) ?_
          refine lv_lload hx hb dL_law_118 (lv_at hl 0 rfl) ?_
          refine lv_ldc2 (v := 65535) hx hb hown (hts _ q158) dL_law_120 ?_
          refine lv_land hx hb dL_law_123 ?_
          refine wr_topl (lN (((wn_w (lw_T L xs 0 i)) * ((wn_w (lw_T L xs 1 j)) / 65536)) % 65536)) (lw_m16 (by omega)) ?_
          refine lv_bipush (v := 16) hx hb dL_law_124 (by decide) ?_
          refine lv_lshl (v := lN (((wn_w (lw_T L xs 0 i)) * ((wn_w (lw_T L xs 1 j)) / 65536)) % 65536 * 65536)) hx hb dL_law_126 (lw_sl16 _) ?_
          refine lv_ladd hx hb dL_law_127 ?_
          refine wr_topl (lN ((wn_w (Z (i + j))) + (wn_c (wn_T (wn_w (lw_T L xs 0 i)) (lw_T L xs 1) Z i) j) + ((wn_w (lw_T L xs 0 i)) * ((wn_w (lw_T L xs 1 j)) % 65536)) % 4294967296 + ((wn_w (lw_T L xs 0 i)) * ((wn_w (lw_T L xs 1 j)) / 65536)) % 65536 * 65536)) (lN_add _ _) ?_
          refine lv_lstore (lv' := [(16, .long (lN ((wn_w (Z (i + j))) + (wn_c (wn_T (wn_w (lw_T L xs 0 i)) (lw_T L xs 1) Z i) j) + ((wn_w (lw_T L xs 0 i)) * ((wn_w (lw_T L xs 1 j)) % 65536)) % 4294967296 + ((wn_w (lw_T L xs 0 i)) * ((wn_w (lw_T L xs 1 j)) / 65536)) % 65536 * 65536))), (14, .long (lN ((wn_w (lw_T L xs 0 i)) * ((wn_w (lw_T L xs 1 j)) / 65536)))), (12, .long (lN ((wn_w (lw_T L xs 0 i)) * ((wn_w (lw_T L xs 1 j)) % 65536)))), (10, .long (lN (wn_w (lw_T L xs 1 j)))), (9, .int (nI j)), (5, .long (lN (wn_c (wn_T (wn_w (lw_T L xs 0 i)) (lw_T L xs 1) Z i) j))), (7, .long (lN (wn_w (lw_T L xs 0 i)))), (4, .int (nI i)), (0, .ref b), (1, .ref qV), (2, .int (nI n)), (3, .ref qR)]) hx hb dL_law_128 hl (by decide) rfl (fun ls hl => ?_)
          refine lv_lload hx hb dL_law_130 (lv_at hl 0 rfl) ?_
          refine lv_bipush (v := 32) hx hb dL_law_132 (by decide) ?_
          refine lv_lushr (v := lN (((wn_w (Z (i + j))) + (wn_c (wn_T (wn_w (lw_T L xs 0 i)) (lw_T L xs 1) Z i) j) + ((wn_w (lw_T L xs 0 i)) * ((wn_w (lw_T L xs 1 j)) % 65536)) % 4294967296 + ((wn_w (lw_T L xs 0 i)) * ((wn_w (lw_T L xs 1 j)) / 65536)) % 65536 * 65536) / 4294967296)) hx hb dL_law_134 (wn_shr32 h3) ?_
          refine lv_lload hx hb dL_law_135 (lv_at hl 2 rfl) ?_
          refine lv_bipush (v := 32) hx hb dL_law_137 (by decide) ?_
          refine lv_lushr (v := lN (((wn_w (lw_T L xs 0 i)) * ((wn_w (lw_T L xs 1 j)) % 65536)) / 4294967296)) hx hb dL_law_139 (wn_shr32 (by omega)) ?_
          refine lv_ladd hx hb dL_law_140 ?_
          refine wr_topl (lN (((wn_w (Z (i + j))) + (wn_c (wn_T (wn_w (lw_T L xs 0 i)) (lw_T L xs 1) Z i) j) + ((wn_w (lw_T L xs 0 i)) * ((wn_w (lw_T L xs 1 j)) % 65536)) % 4294967296 + ((wn_w (lw_T L xs 0 i)) * ((wn_w (lw_T L xs 1 j)) / 65536)) % 65536 * 65536) / 4294967296 + ((wn_w (lw_T L xs 0 i)) * ((wn_w (lw_T L xs 1 j)) % 65536)) / 4294967296)) (lN_add _ _) ?_
          refine lv_lload hx hb dL_law_141 (lv_at hl 1 rfl) ?_
          refine lv_bipush (v := 16) hx hb dL_law_143 (by decide) ?_
          refine lv_lushr (v := lN (((wn_w (lw_T L xs 0 i)) * ((wn_w (lw_T L xs 1 j)) / 65536)) / 65536)) hx hb dL_law_145 (lw_sr16 (by omega)) ?_
          refine lv_ladd hx hb dL_law_146 ?_
          refine wr_topl (lN (((wn_w (Z (i + j))) + (wn_c (wn_T (wn_w (lw_T L xs 0 i)) (lw_T L xs 1) Z i) j) + ((wn_w (lw_T L xs 0 i)) * ((wn_w (lw_T L xs 1 j)) % 65536)) % 4294967296 + ((wn_w (lw_T L xs 0 i)) * ((wn_w (lw_T L xs 1 j)) / 65536)) % 65536 * 65536) / 4294967296 + ((wn_w (lw_T L xs 0 i)) * ((wn_w (lw_T L xs 1 j)) % 65536)) / 4294967296 + ((wn_w (lw_T L xs 0 i)) * ((wn_w (lw_T L xs 1 j)) / 65536)) / 65536)) (lN_add _ _) ?_
          refine wr_topl (lN (wn_c (wn_T (wn_w (lw_T L xs 0 i)) (lw_T L xs 1) Z i) (j + 1))) (congrArg lN h5) ?_
          refine lv_lstore (lv' := [(5, .long (lN (wn_c (wn_T (wn_w (lw_T L xs 0 i)) (lw_T L xs 1) Z i) (j + 1)))), (16, .long (lN ((wn_w (Z (i + j))) + (wn_c (wn_T (wn_w (lw_T L xs 0 i)) (lw_T L xs 1) Z i) j) + ((wn_w (lw_T L xs 0 i)) * ((wn_w (lw_T L xs 1 j)) % 65536)) % 4294967296 + ((wn_w (lw_T L xs 0 i)) * ((wn_w (lw_T L xs 1 j)) / 65536)) % 65536 * 65536))), (14, .long (lN ((wn_w (lw_T L xs 0 i)) * ((wn_w (lw_T L xs 1 j)) / 65536)))), (12, .long (lN ((wn_w (lw_T L xs 0 i)) * ((wn_w (lw_T L xs 1 j)) % 65536)))), (10, .long (lN (wn_w (lw_T L xs 1 j)))), (9, .int (nI j)), (7, .long (lN (wn_w (lw_T L xs 0 i)))), (4, .int (nI i)), (0, .ref b), (1, .ref qV), (2, .int (nI n)), (3, .ref qR)]) hx hb dL_law_147 hl (by decide) rfl (fun ls hl => ?_)
          refine lv_aload_n hx hb dL_law_149 rfl (lv_at hl 11 rfl) ?_
          refine lv_iload hx hb dL_law_150 (lv_at hl 7 rfl) ?_
          refine lv_iload hx hb dL_law_152 (lv_at hl 5 rfl) ?_
          refine lv_iadd hx hb dL_law_154 ?_
          refine wr_topi (nI (i + j)) (nI_add _ _) ?_
          refine lv_lload hx hb dL_law_155 (lv_at hl 1 rfl) ?_
          refine lv_ldc2 (v := 4294967295) hx hb hown (hts _ q140) dL_law_157 ?_
          refine lv_land hx hb dL_law_160 ?_
          refine wr_topl (lN (((wn_w (Z (i + j))) + (wn_c (wn_T (wn_w (lw_T L xs 0 i)) (lw_T L xs 1) Z i) j) + ((wn_w (lw_T L xs 0 i)) * ((wn_w (lw_T L xs 1 j)) % 65536)) % 4294967296 + ((wn_w (lw_T L xs 0 i)) * ((wn_w (lw_T L xs 1 j)) / 65536)) % 65536 * 65536) % 4294967296)) (lw_m32 h3) ?_
          refine wr_topl (lN (wn_w (wn_cw (wn_T (wn_w (lw_T L xs 0 i)) (lw_T L xs 1) Z i) j))) (congrArg lN (h4.trans (wn_w_nI _).symm)) ?_
          refine wr_last hx hb hKL hP hD hS gR (show i + j < n + n by omega) (by omega) _ rfl dL_law_161 (fun H locs hP hD hS => ?_)
          rw [lw_rowU, wr_gu] at hP hD
          refine lv_iinc (v := nI (j + 1)) (lv' := [(9, .int (nI (j + 1))), (5, .long (lN (wn_c (wn_T (wn_w (lw_T L xs 0 i)) (lw_T L xs 1) Z i) (j + 1)))), (16, .long (lN ((wn_w (Z (i + j))) + (wn_c (wn_T (wn_w (lw_T L xs 0 i)) (lw_T L xs 1) Z i) j) + ((wn_w (lw_T L xs 0 i)) * ((wn_w (lw_T L xs 1 j)) % 65536)) % 4294967296 + ((wn_w (lw_T L xs 0 i)) * ((wn_w (lw_T L xs 1 j)) / 65536)) % 65536 * 65536))), (14, .long (lN ((wn_w (lw_T L xs 0 i)) * ((wn_w (lw_T L xs 1 j)) / 65536)))), (12, .long (lN ((wn_w (lw_T L xs 0 i)) * ((wn_w (lw_T L xs 1 j)) % 65536)))), (10, .long (lN (wn_w (lw_T L xs 1 j)))), (7, .long (lN (wn_w (lw_T L xs 0 i)))), (4, .int (nI i)), (0, .ref b), (1, .ref qV), (2, .int (nI n)), (3, .ref qR)]) hx hb dL_law_162 hl (k := 5) rfl (wn_inc j) (by decide) rfl (fun ls hl => ?_)
          refine lv_goto (tgt := 58) hx hb dL_law_165 (by decide) ?_
          exact ih2 (j + 1) _ H locs ls (by omega) (by rw [List.length_set]; exact hlen) (wr_set_at gR) (wf_mono hV (fun j_ _ h8 => wr_set_ne (by omega))) hP hD hS (lv_sub hl [0, 1, 6, 7, 8, 9, 10, 11] rfl)
      have hg0 : (wr_g (wn_cw (wn_T (wn_w (lw_T L xs 0 i)) (lw_T L xs 1) Z i)) Z i 0) = Z := wr_g0 _ _ _
      exact loopI n 0 u H locs ls (by omega) hlen (by rw [hg0]; exact gR) hV hP hD hS (lv_sub hl [0, 2, 1, 3, 4, 5, 6, 7] rfl)
  refine loopO ?_ n 0 _ (fun _ => 0) H locs ls (by omega) ?_ hlen gR hV hP hD hS (lv_sub hl [0, 4, 3, 2, 1] rfl)
  case refine_2 =>
    rw [Nat.zero_add]
    show wn_v _ n = 0 * _
    rw [Nat.zero_mul]
    exact lw_v0 n
  clear loopO hpre
  intro u Z H locs ls hZ hlen gR hV hP hD hS hl
  have hwZ : ∀ i, i < n + n → wV1 i = Z i := fun i hi => wn_v_injI (n + n) (by rw [hwV1, hZ, vV0, vV1]) i hi
  refine lv_iconst (v := nI 0) hx hb dL_law_182 (by decide) ?_
  refine lv_istore (lv' := [(4, .int (nI 0)), (0, .ref b), (1, .ref qV), (2, .int (nI n)), (3, .ref qR)]) hx hb dL_law_183 hl (by decide) rfl (fun ls hl => ?_)
  have loop4 : (∀ (H : Heap) (locs : List Loc) (ls : Array Slot), va_P D vwCl u H → va_D A u → va_S A s.heap H locs → lv_has ls 18 [(4, .int (nI (n + n))), (0, .ref b), (1, .ref qV), (2, .int (nI n)), (3, .ref qR)] → W p l e room_1 s m #[Value.ref b] below meth c H locs 14 163 (lw_Z below #[Value.ref b] s) (F0 m 215 ls [])) → ∀ (k_i i : Nat) (H : Heap) (locs : List Loc) (ls : Array Slot), i + k_i = (n + n) → va_P D vwCl u H → va_D A u → va_S A s.heap H locs → lv_has ls 18 [(4, .int (nI i)), (0, .ref b), (1, .ref qV), (2, .int (nI n)), (3, .ref qR)] → W p l e room_1 s m #[Value.ref b] below meth c H locs 14 163 (lw_Z below #[Value.ref b] s) (F0 m 185 ls []) := by
    intro kx_i k_i
    induction k_i with
    | zero =>
      intro i H locs ls hik hP hD hS hl
      have hin : i = (n + n) := by omega
      rw [hin] at hl
      refine lv_iload hx hb dL_law_185 (lv_at hl 0 rfl) ?_
      refine lv_iconst (v := nI 2) hx hb dL_law_187 (by decide) ?_
      refine lv_iload_n hx hb dL_law_188 rfl (lv_at hl 3 rfl) ?_
      refine lv_imul hx hb dL_law_189 ?_
      refine wr_topi (nI (n + n)) (by rw [pk_mul, show 2 * n = n + n by omega]) ?_
      refine lv_icmp_ge (tgt := 215) hx hb dL_law_190 (by decide) (fun _ => ?_) (fun q_ => absurd (nI_le (Nat.le_refl _) (by omega)) q_)
      exact kx_i H locs ls hP hD hS (lv_sub hl [0, 1, 2, 3, 4] rfl)
    | succ k_i ih_i =>
      intro i H locs ls hik hP hD hS hl
      have hi : i < (n + n) := by omega
      refine lv_iload hx hb dL_law_185 (lv_at hl 0 rfl) ?_
      refine lv_iconst (v := nI 2) hx hb dL_law_187 (by decide) ?_
      refine lv_iload_n hx hb dL_law_188 rfl (lv_at hl 3 rfl) ?_
      refine lv_imul hx hb dL_law_189 ?_
      refine wr_topi (nI (n + n)) (by rw [pk_mul, show 2 * n = n + n by omega]) ?_
      refine lv_icmp_ge (tgt := 215) hx hb dL_law_190 (by decide) (fun q_ => absurd q_ (nI_ge hi (by omega))) (fun _ => ?_)
      refine lv_aload_n hx hb dL_law_193 rfl (lv_at hl 2 rfl) ?_
      refine lv_iload hx hb dL_law_194 (lv_at hl 0 rfl) ?_
      refine wr_calli0 hD hS hA (va_runV (As := [.int (nI i)]) (rest := []) ⟨hx, hb, hml, hown, hts⟩ (f_wideN l D dI dF _ H.size _ _ _ _ _ hV hn1 hn2 (i) (hi)) (cwV 1 hts (lw_V q92 q93 q94 q1 q95) rfl rfl rfl (by decide +kernel) ⟨Nat.le_of_ble_eq_true rfl, Nat.le_of_ble_eq_true rfl⟩) (wf_preV hV hP hK hD) rfl rfl hl.1 rfl (lv_room (Nat.le_of_ble_eq_true rfl)) dL_law_196 ⟨Nat.le_of_ble_eq_true rfl, Nat.le_of_ble_eq_true rfl⟩) (fun r_ u_ H locs hp hP hD hS => ?_)
      subst hp
      refine lv_aload_n hx hb dL_law_199 rfl (lv_at hl 4 rfl) ?_
      refine lv_iload hx hb dL_law_200 (lv_at hl 0 rfl) ?_
      refine wr_lald hx hb hKL hP gR hi hB2 dL_law_202 ?_
      refine lv_l2i (v := Z i) hx hb dL_law_203 (by show (lN (wn_w (Z i))).toInt32 = Z i; rw [lN_i, wn_nI_w]) ?_
      refine lv_icmp_eq (tgt := 209) hx hb dL_law_204 (by decide) (fun _ => ?_) (fun q_ => absurd (hwZ i hi) q_)
      refine lv_iinc (v := nI (i + 1)) (lv' := [(4, .int (nI (i + 1))), (0, .ref b), (1, .ref qV), (2, .int (nI n)), (3, .ref qR)]) hx hb dL_law_209 hl (k := 0) rfl (wn_inc i) (by decide) rfl (fun ls hl => ?_)
      refine lv_goto (tgt := 185) hx hb dL_law_212 (by decide) ?_
      exact ih_i (i + 1) H locs ls (by omega) hP hD hS (lv_sub hl [0, 1, 2, 3, 4] rfl)
  refine loop4 ?_ ((n + n)) 0 H locs ls (by omega) hP hD hS (lv_sub hl [0, 1, 2, 3, 4] rfl)
  clear loop4
  intro H locs ls hP hD hS hl
  refine lv_lconst (v := lN 0) hx hb dL_law_215 (by decide) ?_
  refine lv_lstore (lv' := [(4, .long (lN 0)), (0, .ref b), (1, .ref qV), (2, .int (nI n)), (3, .ref qR)]) hx hb dL_law_216 hl (by decide) rfl (fun ls hl => ?_)
  refine lv_aload_n hx hb dL_law_218 rfl (lv_at hl 2 rfl) ?_
  refine lv_iconst (v := 3) hx hb dL_law_219 (by decide) ?_
  refine lv_iconst (v := 0) hx hb dL_law_220 (by decide) ?_
  refine lv_iconst (v := 1) hx hb dL_law_221 (by decide) ?_
  refine wr_calli0 hD hS hA (va_runV (As := [.int 3, .int 0, .int 1]) (rest := []) ⟨hx, hb, hml, hown, hts⟩ (f_add l D dI dF _ H.size _ _ _ _ _ hV hn1 hn2 3 3 (by decide) (by decide) 0 0 (by decide) (by decide) 1 1 (by decide) (by decide)) (cwV 3 hts (lw_V q7 q8 q9 q1 q10) rfl rfl rfl (by decide +kernel) ⟨Nat.le_of_ble_eq_true rfl, Nat.le_of_ble_eq_true rfl⟩) (wf_preV hV hP hK hD) rfl rfl hl.1 rfl (lv_room (Nat.le_of_ble_eq_true rfl)) dL_law_222 ⟨Nat.le_of_ble_eq_true rfl, Nat.le_of_ble_eq_true rfl⟩) (fun r_ u H locs hp hP hD hS => ?_)
  obtain ⟨hr_, hp⟩ := hp
  have hV := hp.2.2
  obtain ⟨RV1, eRV1⟩ : ∃ z_, z_ = va_up RV 3 (wr_f (wn_cw (wn_gA (RV 0) (RV 1))) (RV 3) n) := ⟨_, rfl⟩
  rw [← eRV1] at hV
  have hgc : ∀ j, j < n → wn_gA (RV 0) (RV 1) j = wn_gA (lw_T L xs 0) (lw_T L xs 1) j := lw_gA_congr (fun j hj => hRV 0 j (by decide) hj) (fun j hj => hRV 1 j (by decide) hj)
  rw [wn_c_congr n hgc] at hr_
  subst hr_
  have fV : ∀ i, i < n → RV1 3 i = wn_cw (wn_gA (lw_T L xs 0) (lw_T L xs 1)) i := fun i hi => by rw [eRV1]; simp only [va_up, if_pos]; rw [wr_fl _ _ hi]; exact wn_cw_congr hgc hi
  refine lv_istore (lv' := [(6, .int (nI (wn_c (wn_gA (lw_T L xs 0) (lw_T L xs 1)) n))), (4, .long (lN 0)), (0, .ref b), (1, .ref qV), (2, .int (nI n)), (3, .ref qR)]) hx hb dL_law_225 hl (by decide) rfl (fun ls hl => ?_)
  refine lv_iconst (v := nI 0) hx hb dL_law_227 (by decide) ?_
  refine lv_istore (lv' := [(7, .int (nI 0)), (6, .int (nI (wn_c (wn_gA (lw_T L xs 0) (lw_T L xs 1)) n))), (4, .long (lN 0)), (0, .ref b), (1, .ref qV), (2, .int (nI n)), (3, .ref qR)]) hx hb dL_law_228 hl (by decide) rfl (fun ls hl => ?_)
  have loop7 : (∀ (H : Heap) (locs : List Loc) (ls : Array Slot), va_P D vwCl u H → va_D A u → va_S A s.heap H locs → lv_has ls 18 [(7, .int (nI n)), (4, .long (lN (wn_c (wn_gA (lw_T L xs 0) (lw_T L xs 1)) n))), (6, .int (nI (wn_c (wn_gA (lw_T L xs 0) (lw_T L xs 1)) n))), (0, .ref b), (1, .ref qV), (2, .int (nI n))] → W p l e room_1 s m #[Value.ref b] below meth c H locs 14 163 (lw_Z below #[Value.ref b] s) (F0 m 297 ls [])) → ∀ (k_i i : Nat) (H : Heap) (locs : List Loc) (ls : Array Slot), i + k_i = n → va_P D vwCl u H → va_D A u → va_S A s.heap H locs → lv_has ls 18 [(7, .int (nI i)), (4, .long (lN (wn_c (wn_gA (lw_T L xs 0) (lw_T L xs 1)) i))), (6, .int (nI (wn_c (wn_gA (lw_T L xs 0) (lw_T L xs 1)) n))), (0, .ref b), (1, .ref qV), (2, .int (nI n))] → W p l e room_1 s m #[Value.ref b] below meth c H locs 14 163 (lw_Z below #[Value.ref b] s) (F0 m 230 ls []) := by
    intro kx_i k_i
    induction k_i with
    | zero =>
      intro i H locs ls hik hP hD hS hl
      have hin : i = n := by omega
      rw [hin] at hl
      refine lv_iload hx hb dL_law_230 (lv_at hl 0 rfl) ?_
      refine lv_iload_n hx hb dL_law_232 rfl (lv_at hl 5 rfl) ?_
      refine lv_icmp_ge (tgt := 297) hx hb dL_law_233 (by decide) (fun _ => ?_) (fun q_ => absurd (nI_le (Nat.le_refl _) (by omega)) q_)
      exact kx_i H locs ls hP hD hS (lv_sub hl [0, 1, 2, 3, 4, 5] rfl)
    | succ k_i ih_i =>
      intro i H locs ls hik hP hD hS hl
      have hi : i < n := by omega
      refine lv_iload hx hb dL_law_230 (lv_at hl 0 rfl) ?_
      refine lv_iload_n hx hb dL_law_232 rfl (lv_at hl 5 rfl) ?_
      refine lv_icmp_ge (tgt := 297) hx hb dL_law_233 (by decide) (fun q_ => absurd q_ (nI_ge hi (by omega))) (fun _ => ?_)
      refine lv_lload hx hb dL_law_236 (lv_at hl 1 rfl) ?_
      refine lv_aload_n hx hb dL_law_238 rfl (lv_at hl 3 rfl) ?_
      refine lv_iconst (v := nI 1) hx hb dL_law_239 (by decide) ?_
      refine lv_iload hx hb dL_law_240 (lv_at hl 0 rfl) ?_
      refine lv_iadd hx hb dL_law_242 ?_
      refine wr_topi (nI (1 + i)) (nI_add _ _) ?_
      refine wr_calli0 hD hS hA (va_runS (As := [.ref b, .int (nI (1 + i))]) (rest := [.long (lN (wn_c (wn_gA (lw_T L xs 0) (lw_T L xs 1)) i))]) ⟨hx, hb, hml, hown, hts⟩ (c_cell l D dI dF _ H.size b L xs (1 + i) (by omega) hL) (va_cwS 2 hts (lw_S q96 q97 q0 q98) rfl rfl rfl (by decide +kernel) ⟨Nat.le_of_ble_eq_true rfl, Nat.le_of_ble_eq_true rfl⟩) (wr_preX hX0 hbl hbA hP hK hD hS) rfl rfl hl.1 rfl (lv_room (Nat.le_of_ble_eq_true rfl)) dL_law_243 ⟨Nat.le_of_ble_eq_true rfl, Nat.le_of_ble_eq_true rfl⟩) (fun r_ u_ H locs hp hP hD hS => ?_)
      subst hp
      refine lv_i2l (v := ((lw_cl L xs (1 + i))).toInt64) hx hb dL_law_246 (rfl) ?_
      refine lv_ldc2 (v := 4294967295) hx hb hown (hts _ q140) dL_law_247 ?_
      refine lv_land hx hb dL_law_250 ?_
      refine wr_topl (lN (wn_w (lw_T L xs 0 i))) (wn_i2l _) ?_
      refine lv_aload_n hx hb dL_law_251 rfl (lv_at hl 3 rfl) ?_
      refine lv_bipush (v := nI 17) hx hb dL_law_252 (by decide) ?_
      refine lv_iload hx hb dL_law_254 (lv_at hl 0 rfl) ?_
      refine lv_iadd hx hb dL_law_256 ?_
      refine wr_topi (nI (17 + i)) (nI_add _ _) ?_
      refine wr_calli0 hD hS hA (va_runS (As := [.ref b, .int (nI (17 + i))]) (rest := [.long (lN (wn_w (lw_T L xs 0 i))), .long (lN (wn_c (wn_gA (lw_T L xs 0) (lw_T L xs 1)) i))]) ⟨hx, hb, hml, hown, hts⟩ (c_cell l D dI dF _ H.size b L xs (17 + i) (by omega) hL) (va_cwS 2 hts (lw_S q96 q97 q0 q98) rfl rfl rfl (by decide +kernel) ⟨Nat.le_of_ble_eq_true rfl, Nat.le_of_ble_eq_true rfl⟩) (wr_preX hX0 hbl hbA hP hK hD hS) rfl rfl hl.1 rfl (lv_room (Nat.le_of_ble_eq_true rfl)) dL_law_257 ⟨Nat.le_of_ble_eq_true rfl, Nat.le_of_ble_eq_true rfl⟩) (fun r_ u_ H locs hp hP hD hS => ?_)
      subst hp
      refine lv_i2l (v := ((lw_cl L xs (17 + i))).toInt64) hx hb dL_law_260 (rfl) ?_
      refine lv_ldc2 (v := 4294967295) hx hb hown (hts _ q140) dL_law_261 ?_
      refine lv_land hx hb dL_law_264 ?_
      refine wr_topl (lN (wn_w (lw_T L xs 1 i))) (wn_i2l _) ?_
      refine lv_ladd hx hb dL_law_265 ?_
      refine wr_topl (lN ((wn_gA (lw_T L xs 0) (lw_T L xs 1)) i)) (lN_add _ _) ?_
      refine lv_ladd hx hb dL_law_266 ?_
      refine wr_topl (lN (wn_c (wn_gA (lw_T L xs 0) (lw_T L xs 1)) i + (wn_gA (lw_T L xs 0) (lw_T L xs 1)) i)) (lN_add _ _) ?_
      refine lv_lstore (lv' := [(4, .long (lN (wn_c (wn_gA (lw_T L xs 0) (lw_T L xs 1)) i + (wn_gA (lw_T L xs 0) (lw_T L xs 1)) i))), (7, .int (nI i)), (6, .int (nI (wn_c (wn_gA (lw_T L xs 0) (lw_T L xs 1)) n))), (0, .ref b), (1, .ref qV), (2, .int (nI n))]) hx hb dL_law_267 hl (by decide) rfl (fun ls hl => ?_)
      refine lv_aload_n hx hb dL_law_269 rfl (lv_at hl 4 rfl) ?_
      refine lv_iconst (v := 3) hx hb dL_law_270 (by decide) ?_
      refine lv_iload hx hb dL_law_271 (lv_at hl 1 rfl) ?_
      refine wr_calli0 hD hS hA (va_runV (As := [.int 3, .int (nI i)]) (rest := []) ⟨hx, hb, hml, hown, hts⟩ (f_wordN l D dI dF _ H.size _ _ _ _ _ hV hn1 hn2 _ 3 (by decide) (by decide) (i) (hi)) (cwV 2 hts (lw_V q3 q4 q5 q1 q6) rfl rfl rfl (by decide +kernel) ⟨Nat.le_of_ble_eq_true rfl, Nat.le_of_ble_eq_true rfl⟩) (wf_preV hV hP hK hD) rfl rfl hl.1 rfl (lv_room (Nat.le_of_ble_eq_true rfl)) dL_law_273 ⟨Nat.le_of_ble_eq_true rfl, Nat.le_of_ble_eq_true rfl⟩) (fun r_ u_ H locs hp hP hD hS => ?_)
      subst hp
      refine lv_lload hx hb dL_law_276 (lv_at hl 0 rfl) ?_
      refine lv_l2i (v := wn_cw (wn_gA (lw_T L xs 0) (lw_T L xs 1)) i) hx hb dL_law_278 (lN_i _) ?_
      refine lv_icmp_eq (tgt := 284) hx hb dL_law_279 (by decide) (fun _ => ?_) (fun q_ => absurd (fV i hi) q_)
      refine lv_lload hx hb dL_law_284 (lv_at hl 0 rfl) ?_
      refine lv_bipush (v := 32) hx hb dL_law_286 (by decide) ?_
      refine lv_lushr (v := lN (wn_c (wn_gA (lw_T L xs 0) (lw_T L xs 1)) (i + 1))) hx hb dL_law_288 (wn_shr32 (by have h8 := wn_c_le1 (wn_gA_le (lw_T L xs 0) (lw_T L xs 1)) i; have h9 := wn_gA_le (lw_T L xs 0) (lw_T L xs 1) i; omega)) ?_
      refine lv_lstore (lv' := [(4, .long (lN (wn_c (wn_gA (lw_T L xs 0) (lw_T L xs 1)) (i + 1)))), (7, .int (nI i)), (6, .int (nI (wn_c (wn_gA (lw_T L xs 0) (lw_T L xs 1)) n))), (0, .ref b), (1, .ref qV), (2, .int (nI n))]) hx hb dL_law_289 hl (by decide) rfl (fun ls hl => ?_)
      refine lv_iinc (v := nI (i + 1)) (lv' := [(7, .int (nI (i + 1))), (4, .long (lN (wn_c (wn_gA (lw_T L xs 0) (lw_T L xs 1)) (i + 1)))), (6, .int (nI (wn_c (wn_gA (lw_T L xs 0) (lw_T L xs 1)) n))), (0, .ref b), (1, .ref qV), (2, .int (nI n))]) hx hb dL_law_291 hl (k := 1) rfl (wn_inc i) (by decide) rfl (fun ls hl => ?_)
      refine lv_goto (tgt := 230) hx hb dL_law_294 (by decide) ?_
      exact ih_i (i + 1) H locs ls (by omega) hP hD hS (lv_sub hl [0, 1, 2, 3, 4, 5] rfl)
  refine loop7 ?_ (n) 0 H locs ls (by omega) hP hD hS (lv_sub hl [0, 2, 1, 3, 4, 5] rfl)
  clear loop7
  intro H locs ls hP hD hS hl
  refine lv_iload hx hb dL_law_297 (lv_at hl 2 rfl) ?_
  refine lv_lload hx hb dL_law_299 (lv_at hl 1 rfl) ?_
  refine lv_l2i (v := nI (wn_c (wn_gA (lw_T L xs 0) (lw_T L xs 1)) n)) hx hb dL_law_301 (lN_i _) ?_
  refine lv_icmp_eq (tgt := 307) hx hb dL_law_302 (by decide) (fun _ => ?_) (fun q_ => absurd rfl q_)
  exact lw_lawB hx hb hr hlocks hml hown hts hX0 hbl hbA hL hA hAB hK _ H locs hP hD hS ls (lv_sub hl [3] rfl)
end
section
set_option maxRecDepth 100000
set_option maxHeartbeats 4000000 in
/-- YOUR PART: from the entry, for every script of at most 49 ints, the law comes to its end with true ('hflags': the launch's flags, for a law that throws: no stack traces) -/
theorem whole_start {p : Program} {e : Env} {s : State} {m : MethodId} {below : List Frame} {meth : Method} {c : Code} (l : Launch) (hflags : l.flags = flags0) {b L : Nat} {xs : Nat → Int32} (hL : L ≤ 49) (C0 : lw_At p s m meth c b L xs) : W p l e room_1 s m #[Value.ref b] below meth c s.heap [] 0 0 (lw_Z below #[Value.ref b] s) (entryFrame m ([Value.ref b] : List Value).toArray 18) := by
  obtain ⟨hx, hb, hr, hml, hown, hts0, hX, hbl, hlocks, -⟩ := id C0
  have hts : ∀ w ∈ lw_all, w.before #[Value.ref b] s = true := fun w h => hts0 w (lw_all_tbl h)
  obtain ⟨c0, iS0, hKn0⟩ := u_known (C := RX1) (T := TX1) (N := 3) (n := 3) hts in_X1 (hts _ q103)
  have hover := hts0 _ q111
  obtain ⟨comp, dF, kA, -, -, k1, k2, h5⟩ := arrayOverA_spec hover
  obtain ⟨dI, kI, compI, f1, f2, f3⟩ := Cond.arrayClass_spec (hts _ q122)
  have hK : wr_K (fun _ => c0, fun _ => iS0) dI dF s := by
    refine ⟨⟨fun k q hq => ?_, fun k q hk => ?_⟩, over_moved (Vm.Alike.refl s.vm) hover⟩
    · match k, hq with
      | 0, hq => cases hq; exact hKn0
      | k + 1, hq => simp [vwCl] at hq
    · match k, hk with
      | 0, hk => obtain rfl := Option.some.inj (show some (dI, FieldType.int) = some q from hk); exact ⟨fun n z => ⟨fun k h => (by cases h), kI, f2, compI, f3⟩, f1⟩
      | 1, hk => obtain rfl := Option.some.inj (show some (dF, FieldType.array .int) = some q from hk); exact ⟨fun n z => ⟨fun k h => (by cases h), kA, k1, comp, k2⟩, h5⟩
      | k + 2, hk => simp [wr_tys] at hk
  have hA : ∀ q : Nat, s.heap.size ≤ q → (fun q : Nat => s.heap.size ≤ q) q := fun _ h => h
  have hbA : ¬ (fun q : Nat => s.heap.size ≤ q) b := Nat.not_le.mpr hbl
  have hP : va_P (fun _ => c0, fun _ => iS0) vwCl [] s.heap := fun k q h => by simp at h
  have hD : va_D (fun q : Nat => s.heap.size ≤ q) [] := ⟨fun i j p q h => by simp at h, fun k q h => by simp at h⟩
  have hl := lv_entry ([.ref b]) (n := 18) (Nat.le_of_ble_eq_true rfl)
  rw [lg_entry_eq]
  generalize (lg_sl ([.ref b]) ++ List.replicate (18 - (lg_sl ([.ref b])).length) Slot.unset).toArray = ls at hl ⊢
  have hl : lv_has ls 18 [(0, .ref b)] := hl
  exact lw_lawA hx hb hr hlocks hml hown hts hX hbl hbA (by omega) hA (fun _ h => h) hK [] s.heap [] hP hD va_S.rf ls hl
set_option maxHeartbeats 4000000 in
theorem lw_walk (l : Launch) (hflags : l.flags = flags0) (b : Addr) (xs : List Int32) : MetFree l x (headSpec (Jvm.Cond.code x code maxLocals ret :: tables_1) room_1) (lw_P b xs) (fun _ _ _ _ _ => True) lw_Q := by
  refine MetFree.of_bodyS (code := code) (maxLocals := maxLocals) (ret := ret) (by decide) ?_ ?_
  · intro args s m h hn
    obtain ⟨meth, c, h1, h2, h3, h4, h5, h6, -, -⟩ := Cond.code_spec hn (atoms_spec (ws := Jvm.Cond.code x code maxLocals ret :: tables_1) h _ List.mem_cons_self)
    exact ⟨meth, c, h1, h2, h3, h4, h5, h6⟩
  · intro p e s m args below meth c s₁ B hml0 hP _
    obtain ⟨rfl, hx, hbd, hgv⟩ := hP
    obtain ⟨scr, harrAt, hlist, hof, hsmall⟩ := hx
    obtain ⟨hcb, hkn, -, -⟩ := State.arrayAt?_spec harrAt
    have hown : s.vm.findClass R_law = some m.cls := findClass_of_methodNamed B.named
    have hts0 : ∀ c ∈ (Jvm.Cond.code x code maxLocals ret :: tables_1), c.before #[Value.ref b] s = true := atoms_spec (ws := Jvm.Cond.code x code maxLocals ret :: tables_1) B.pre
    have hts : ∀ w ∈ lw_tbl, w.before #[Value.ref b] s = true := k2_hts_sels lw_privs (fun w hw => hts0 w (List.mem_cons_of_mem _ hw)) lw_privs_ok
    have hml : c.maxLocals = 18 := B.maxLocals_eq (hts0 _ List.mem_cons_self)
    have X₀ : Stand p l e room_1 s m #[Value.ref b] below meth c s₁ [] 0 0 := Stand.of_body B
    have hh0 : s₁.heap = s.heap := by rw [B.state]; rfl
    have hsz : scr.slots.size = xs.length := by rw [← Array.length_toList, hlist, List.length_map]
    have hval : ∀ j : Nat, j < xs.length → scr.slots[j]? = some (.int (xs.getD j 0)) := fun j hj => by
      rw [← Array.getElem?_toList, hlist]
      simp [hj]
    have hbl : b < s.heap.size := (Array.getElem?_eq_some_iff.mp hcb).1
    have hX : va_X b xs.length (fun j => xs.getD j 0) s s.heap := ⟨scr, hcb, hof, hkn, hsz, hval⟩
    have K : W p l e room_1 s m #[Value.ref b] below meth c s₁.heap [] 0 0 (lw_Z below #[Value.ref b] s) (entryFrame m ([Value.ref b] : List Value).toArray 18) := by
      rw [hh0]
      exact whole_start l hflags hbd ⟨B.exec, B.bytes, B.returns, hml, hown, hts, hX, hbl, B.notSynchronized, hgv⟩
    obtain ⟨t, a1, o, b1, b2, b3⟩ := K s₁ rfl X₀
    exact ⟨t, o, a1, b1, b2, b3⟩
theorem lw_pre_spec {args : Array Value} {s : State} (h : (Jvm.Cond.and given_1 narrow_1).before args s = true) (hr : rest_1_c.before args s = true) : ∃ (b : Addr) (xs : List Int32), lw_P b xs args s := by
  have hs := flat_of_before _ h
  have hq := flat_of_before _ hr
  have hc : (Cond.count 1).before args s = true := hs _ (by decide +kernel)
  have harr : (Cond.arrayOf (.arg 0) .int).before args s = true := hs _ (by decide +kernel)
  have hle : (Cond.le (.length (.arg 0)) (.int 49)).before args s = true := hs _ (by decide +kernel)
  have hlen : (Cond.isInt (.length (.arg 0))).before args s = true := hq _ (by decide +kernel)
  have hall : (Cond.all (.arg 0) (.isInt (.elem (.arg 0) (.index 0)))).before args s = true := hq _ (by decide +kernel)
  obtain ⟨b, xs, hb, hx⟩ := State.ints_of_pre rfl harr hlen hall
  have hsm : xs.length < 2 ^ 31 := hx.choose_spec.2.2.2
  have hev : (Term.length (.arg 0)).eval args s none [] s = some (.int xs.length.toInt32) := hx.length_eval hb
  have hv := Cond.le_ints hev (show (Term.int 49).eval args s none [] s = some (.int 49) from rfl)
  have hd : xs.length.toInt32 ≤ 49 := by
    simpa [Cond.before, Cond.holds, hv] using hle
  have hN : xs.length ≤ 49 := (Int32.ofNat_le_ofNat hsm (by decide)).mp (show Int32.ofNat xs.length ≤ Int32.ofNat 49 from hd)
  exact ⟨b, xs, Cond.one_arg hc (show args[0]? = some (.ref b) from hb), hx, hN, h⟩
theorem lw_comes (l : Launch) (hflags : l.flags = flags0) : Comes l x (Jvm.Cond.code x code maxLocals ret :: tables_1) room_1 (fun tb e args s => Calls_1 tb e args s ∧ rest_1 tb e args s ∧ Pre_1 tb e args s)
    (fun _ _ args s o t => lw_Q args s o t) := by
  intro p e ha hc hk s m args below hf hfit hheap happ hpre
  obtain ⟨b, xs, hP⟩ := lw_pre_spec hpre.2.2 hpre.2.1
  obtain ⟨k, o, h1, h2, h3, hQ⟩ := lw_walk l hflags b xs p e ha hc hk s m args below hf ((Spec.applies_iff_loose hf).mp happ).1 hP trivial
  exact ⟨k, o, h1, h2, h3, hQ⟩
theorem lw_frame {s t : State} {o : Outcome} {args : Array Value} (h : Framed s o t [] 1200000 5502250) :
    Framed s o t (fieldLocs frame_1_writes args s ++ arrayLocs frame_1_arrays args s ++ staticLocs frame_1_statics s) 1200000 5502250 := h
theorem lw_limb (L : Cond) (hL : ∀ (args : Array Value) (s t : State), L.after args s (.returned (some (.int 1))) t = true) :
    ArmFor flags0 classFile x code maxLocals ret World_1 tables_1 room_1 Calls_1 rest_1 Pre_1
      (fun tb e a s o t => postC L tb e a s o t ∧ Framed s o t (fieldLocs frame_1_writes a s ++ arrayLocs frame_1_arrays a s ++ staticLocs frame_1_statics s) 1200000 5502250) := by
  intro l hflags _ _ p e ha hc hk s m args below hf hfit hheap happ hpre
  obtain ⟨k, o, h1, h2, h3, rfl, hF⟩ := lw_comes l hflags p e ha hc hk s m args below hf hfit hheap happ hpre
  exact ⟨k, _, h1, h2, h3, hL args s _, lw_frame hF⟩
theorem i_vc : Claimed_1_1 ∧ Claimed_1_2 := ⟨lw_limb limb_1_1 (fun args s t => by simp [limb_1_1, Cond.after, Cond.holds, Cond.value]), lw_limb limb_1_2 (fun args s t => Cond.after_iff.mpr (by
  first | (rw [show limb_1_2 = Cond.eq .result (.int 1) from rfl, Cond.eq_ints (x := 1) (y := 1) rfl rfl]; simp; done) | (simp [limb_1_2, Cond.value, Term.eval]; done)))⟩
end
