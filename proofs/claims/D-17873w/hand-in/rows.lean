section
-- ===== PART A: goes FIRST, ahead of the names: the tables' words, and 'selects' of the private methods out of them =====
/-- a private method of a class that the tables say can be made, by its rows of tables_1 -/
def lw_okq (q : MethodName × Nat) : Prop := (q.1.cls ≠ "java/lang/invoke/MethodHandle" ∧ q.1.cls ≠ "java/lang/invoke/VarHandle") ∧ Cond.instantiable q.1.cls q.2 ∈ tables_1 ∧ Cond.privateMethod q.1 ∈ tables_1 ∧ Cond.instanceMethod q.1 ∈ tables_1
def lw_privs : List (MethodName × Nat) := []
def lw_tbl : List Cond := k2_sels lw_privs ++ tables_1
theorem lw_privs_ok : ∀ q ∈ lw_privs, lw_okq q := fun _ h => absurd h List.not_mem_nil
-- ===== ONE list of words for every method: the tables' words that hold all through a run =====
def lw_all : List Cond := lw_tbl.filter goodWord
/-- a word of the tables by its place: claim/WORDS.tsv -/
theorem lw_w {w : Cond} (i : Nat) (h : lw_tbl[i]? = some w) (g : goodWord w = true) : w ∈ lw_all := List.mem_filter.mpr ⟨List.mem_of_getElem? h, g⟩
theorem lw_all_tbl {w : Cond} (h : w ∈ lw_all) : w ∈ lw_tbl := (List.mem_filter.mp h).1
theorem lw_self : GoodIn lw_all lw_all := fun w h => ⟨h, good_of_word (List.mem_filter.mp h).2⟩
/-- a class's field words, by their places -/
theorem lw_in (ws : List Cond) (ps : List Nat) (hp : ws = ps.filterMap (fun i => lw_tbl[i]?)) (hg : ws.all goodWord = true) : ∀ w ∈ ws, w ∈ lw_all := by
  intro w h
  have h1 := List.all_eq_true.mp hg w h
  rw [hp] at h
  obtain ⟨i, -, hi⟩ := List.mem_filterMap.mp h
  exact lw_w i hi h1
/-- the words of a contract for the method y with code b, L locals, answer r -/
abbrev ws_ (y : MethodName) (b : ByteArray) (L : Nat) (r : Option FieldType) : List Cond := Cond.code y b L r :: lw_all
theorem lw_meth {y : MethodName} {b : ByteArray} {L : Nat} {r : Option FieldType} (h : Cond.code y b L r ∈ lw_all) : GoodIn lw_all (ws_ y b L r) := by
  intro w hw
  rcases List.mem_cons.mp hw with e | e
  · rw [e]
    exact lw_self _ h
  · exact lw_self _ e
theorem lw_app {a c : List Cond} (ha : ∀ w ∈ a, w ∈ lw_all) (hc : GoodIn lw_all c) : GoodIn lw_all (a ++ c) := by
  intro w hw
  rcases List.mem_append.mp hw with e | e
  · exact lw_self w (ha w e)
  · exact hc w e
/-- what a call through an object asks: cwV n hts (lw_V ..) -/
theorem lw_V {own : String} {idx : Nat} {C : String} {y : MethodName} {b : ByteArray} {L : Nat} {r : Option FieldType} (h1 : Cond.methodLink own idx y ∈ lw_all) (h2 : Cond.instanceMethod y ∈ lw_all) (h3 : Cond.selects C y y ∈ lw_all) (h4 : Cond.initialized C ∈ lw_all) (h5 : Cond.code y b L r ∈ lw_all) : GoodIn lw_all (wsV own idx C y (ws_ y b L r)) := by
  refine lw_app ?_ (lw_meth h5)
  intro w hw
  simp only [List.mem_cons, List.not_mem_nil, or_false] at hw
  rcases hw with e | e | e | e
  · rw [e]; exact h1
  · rw [e]; exact h2
  · rw [e]; exact h3
  · rw [e]; exact h4
/-- what a static call asks: va_cwS n hts (lw_S ..) -/
theorem lw_S {own : String} {idx : Nat} {y : MethodName} {b : ByteArray} {L : Nat} {r : Option FieldType} (h1 : Cond.methodLink own idx y ∈ lw_all) (h2 : Cond.static y ∈ lw_all) (h3 : Cond.initialized y.cls ∈ lw_all) (h4 : Cond.code y b L r ∈ lw_all) : GoodIn lw_all (va_wsS own idx y (ws_ y b L r)) := by
  refine lw_app ?_ (lw_meth h4)
  intro w hw
  simp only [List.mem_cons, List.not_mem_nil, or_false] at hw
  rcases hw with e | e | e
  · rw [e]; exact h1
  · rw [e]; exact h2
  · rw [e]; exact h3
/-- the words of a contract for a method WITH HANDLERS (hh: its table) -/
abbrev wsW_ (y : MethodName) (b : ByteArray) (L : Nat) (r : Option FieldType) (hh : List (Nat × Nat × Nat × Nat)) : List Cond := Cond.codeWith y b L r hh :: lw_all
theorem lw_methW {y : MethodName} {b : ByteArray} {L : Nat} {r : Option FieldType} {hh : List (Nat × Nat × Nat × Nat)} (h : Cond.codeWith y b L r hh ∈ lw_all) : GoodIn lw_all (wsW_ y b L r hh) := by
  intro w hw
  rcases List.mem_cons.mp hw with e | e
  · rw [e]
    exact lw_self _ h
  · exact lw_self _ e
/-- any list of words by their places (lw_in), good -/
theorem lw_good {ws : List Cond} (h : ∀ w ∈ ws, w ∈ lw_all) : GoodIn lw_all ws := fun w hw => lw_self w (h w hw)
/-- what a call of a method with handlers asks: vx_cwVW n hts (lw_VW ..), vx_cwSW n hts (lw_SW ..) -/
theorem lw_VW {own : String} {idx : Nat} {C : String} {y : MethodName} {b : ByteArray} {L : Nat} {r : Option FieldType} {hh : List (Nat × Nat × Nat × Nat)} (h1 : Cond.methodLink own idx y ∈ lw_all) (h2 : Cond.instanceMethod y ∈ lw_all) (h3 : Cond.selects C y y ∈ lw_all) (h4 : Cond.initialized C ∈ lw_all) (h5 : Cond.codeWith y b L r hh ∈ lw_all) : GoodIn lw_all (wsV own idx C y (wsW_ y b L r hh)) := by
  refine lw_app ?_ (lw_methW h5)
  intro w hw
  simp only [List.mem_cons, List.not_mem_nil, or_false] at hw
  rcases hw with e | e | e | e
  · rw [e]; exact h1
  · rw [e]; exact h2
  · rw [e]; exact h3
  · rw [e]; exact h4
theorem lw_SW {own : String} {idx : Nat} {y : MethodName} {b : ByteArray} {L : Nat} {r : Option FieldType} {hh : List (Nat × Nat × Nat × Nat)} (h1 : Cond.methodLink own idx y ∈ lw_all) (h2 : Cond.static y ∈ lw_all) (h3 : Cond.initialized y.cls ∈ lw_all) (h4 : Cond.codeWith y b L r hh ∈ lw_all) : GoodIn lw_all (va_wsS own idx y (wsW_ y b L r hh)) := by
  refine lw_app ?_ (lw_methW h4)
  intro w hw
  simp only [List.mem_cons, List.not_mem_nil, or_false] at hw
  rcases hw with e | e | e
  · rw [e]; exact h1
  · rw [e]; exact h2
  · rw [e]; exact h3
/-- a word by its place in its run of the tables -/
theorem lw_at {r : List Cond} (hr : ∀ w ∈ r, w ∈ lw_tbl) {w : Cond} (i : Nat) (h : r[i]? = some w) : w ∈ lw_tbl := hr w (List.mem_of_getElem? h)
theorem lw_g {w : Cond} (h : w ∈ lw_tbl) (g : goodWord w = true) : w ∈ lw_all := List.mem_filter.mpr ⟨h, g⟩
theorem lw_ms : ∀ w ∈ k2_sels lw_privs, w ∈ lw_tbl := fun w h => show w ∈ k2_sels lw_privs ++ tables_1 from List.mem_append_left _ h
theorem lw_m0 : ∀ w ∈ tables_1, w ∈ lw_tbl := fun w h => show w ∈ k2_sels lw_privs ++ tables_1 from List.mem_append_right (k2_sels lw_privs) h
/-! DECODE ROWS BY BYTES: one lemma an opcode; a method's code is cut into short pieces once, and a row reads its own piece alone. -/
set_option maxRecDepth 100000
/-- the code has just these bytes from pc on -/
def DkAt (code : ByteArray) (pc : Nat) (bs : List UInt8) : Prop := ∀ (j : Nat) (b : UInt8), bs[j]? = some b → code.data.toList[pc + j]? = some b
/-- the piece W has the bytes bs from its place j on -/
def dkIn (W : List UInt8) (j : Nat) (bs : List UInt8) : Bool := decide ((W.drop j).take bs.length = bs)
theorem dk_seg {l W T : List UInt8} {o o2 : Nat} (h : l.drop o = W ++ T) (n : Nat) (hn : W.length = n) (ho : o + n = o2) : l.drop o2 = T := by
  subst ho
  rw [← List.drop_drop, h, List.drop_left' hn]
theorem dk_at {code : ByteArray} {W T bs : List UInt8} {o pc : Nat} (h : code.data.toList.drop o = W ++ T) (j : Nat) (hp : o + j = pc) (hw : dkIn W j bs = true) : DkAt code pc bs := by
  subst hp
  intro i b e
  have h1 := of_decide_eq_true hw
  have h2 : i < bs.length := (List.getElem?_eq_some_iff.mp e).1
  have h3 : W[j + i]? = some b := by
    rw [← h1, List.getElem?_take, if_pos h2, List.getElem?_drop] at e
    exact e
  have h4 : j + i < W.length := (List.getElem?_eq_some_iff.mp h3).1
  have h5 : (code.data.toList.drop o)[j + i]? = some b := by
    rw [h, List.getElem?_append_left h4]
    exact h3
  rw [List.getElem?_drop, ← Nat.add_assoc] at h5
  exact h5
theorem dk_u1 {A : ByteArray} {p : Nat} {b : UInt8} (h : A.data.toList[p]? = some b) : (Reader.u1 : Reader DecodeError Nat) A p = .ok (b.toNat, p + 1) := by
  obtain ⟨h1, h2⟩ := List.getElem?_eq_some_iff.mp h
  have h3 : p < A.size := by simpa using h1
  have h4 : A[p]'h3 = b := h2
  have e : (Reader.u1 : Reader DecodeError Nat) A p = (if h : p < A.size then .ok (A[p].toNat, p + 1) else .error (HasTruncated.truncated p)) := by
    show (do if h : p < A.size then do set (p + 1); Pure.pure A[p].toNat else MonadExcept.throw (HasTruncated.truncated p) : Reader DecodeError Nat) A p = _
    by_cases hi : p < A.size
    · rw [dif_pos hi, dif_pos hi]; rfl
    · rw [dif_neg hi, dif_neg hi]; rfl
  rw [e, dif_pos h3, h4]
theorem dk_bind {α β : Type} {r : Reader DecodeError α} {f : α → Reader DecodeError β} {A : ByteArray} {p s : Nat} {a : α} (h : r A p = .ok (a, s)) : (r >>= f) A p = f a A s := by
  show (do let (a, s) ← r A p; f a A s : Except DecodeError (β × Nat)) = _
  rw [h]
  rfl
theorem dk_map {α β : Type} {r : Reader DecodeError α} {g : α → β} {A : ByteArray} {p s : Nat} {a : α} (h : r A p = .ok (a, s)) : (g <$> r) A p = .ok (g a, s) := by
  show (do let (a, s) ← r A p; .ok (g a, s) : Except DecodeError (β × Nat)) = _
  rw [h]
  rfl
theorem dk_u2 {A : ByteArray} {p : Nat} {a b : UInt8} (h : A.data.toList[p]? = some a) (h2 : A.data.toList[p + 1]? = some b) : (Reader.u2 : Reader DecodeError Nat) A p = .ok (a.toNat * 256 + b.toNat, p + 2) := by
  show (Reader.u1 >>= fun hi => Reader.u1 >>= fun lo => Pure.pure (hi * 256 + lo) : Reader DecodeError Nat) A p = _
  rw [dk_bind (dk_u1 h), dk_bind (dk_u1 h2)]
  rfl
theorem dk_of {code : ByteArray} {pc n : Nat} {i : Instr} (h : Decoder.instr pc code pc = .ok (i, pc + n)) : decode code pc = .ok (i, n) := by
  have e : decode code pc = (match Decoder.instr pc code pc with | .error x => .error x | .ok (j, s) => .ok (j, s - pc)) := by
    show (do let (j, s) ← Decoder.instr pc code pc; Pure.pure (j, s - pc) : Except DecodeError (Instr × Nat)) = _
    cases Decoder.instr pc code pc <;> rfl
  rw [e, h]
  show Except.ok (i, pc + n - pc) = _
  rw [Nat.add_sub_cancel_left]
theorem dk_2 {code : ByteArray} {pc : Nat} (h : DkAt code pc [2]) : decode code pc = .ok (.iconst (-1), 1) := dk_of ((dk_bind (dk_u1 (h 0 _ rfl))).trans rfl)
theorem dk_3 {code : ByteArray} {pc : Nat} (h : DkAt code pc [3]) : decode code pc = .ok (.iconst 0, 1) := dk_of ((dk_bind (dk_u1 (h 0 _ rfl))).trans rfl)
theorem dk_4 {code : ByteArray} {pc : Nat} (h : DkAt code pc [4]) : decode code pc = .ok (.iconst 1, 1) := dk_of ((dk_bind (dk_u1 (h 0 _ rfl))).trans rfl)
theorem dk_5 {code : ByteArray} {pc : Nat} (h : DkAt code pc [5]) : decode code pc = .ok (.iconst 2, 1) := dk_of ((dk_bind (dk_u1 (h 0 _ rfl))).trans rfl)
theorem dk_6 {code : ByteArray} {pc : Nat} (h : DkAt code pc [6]) : decode code pc = .ok (.iconst 3, 1) := dk_of ((dk_bind (dk_u1 (h 0 _ rfl))).trans rfl)
theorem dk_7 {code : ByteArray} {pc : Nat} (h : DkAt code pc [7]) : decode code pc = .ok (.iconst 4, 1) := dk_of ((dk_bind (dk_u1 (h 0 _ rfl))).trans rfl)
theorem dk_8 {code : ByteArray} {pc : Nat} (h : DkAt code pc [8]) : decode code pc = .ok (.iconst 5, 1) := dk_of ((dk_bind (dk_u1 (h 0 _ rfl))).trans rfl)
theorem dk_9 {code : ByteArray} {pc : Nat} (h : DkAt code pc [9]) : decode code pc = .ok (.lconst 0, 1) := dk_of ((dk_bind (dk_u1 (h 0 _ rfl))).trans rfl)
theorem dk_16 {code : ByteArray} {pc : Nat} (a : UInt8) (h : DkAt code pc [16, a]) : decode code pc = .ok (.bipush (Reader.signed 8 a.toNat), 2) := dk_of ((dk_bind (dk_u1 (h 0 _ rfl))).trans ((dk_bind (dk_map (dk_u1 (h 1 _ rfl)))).trans rfl))
theorem dk_17 {code : ByteArray} {pc : Nat} (a b : UInt8) (h : DkAt code pc [17, a, b]) : decode code pc = .ok (.sipush (Reader.signed 16 (a.toNat * 256 + b.toNat)), 3) := dk_of ((dk_bind (dk_u1 (h 0 _ rfl))).trans ((dk_bind (dk_map (dk_u2 (h 1 _ rfl) (h 2 _ rfl)))).trans rfl))
theorem dk_18 {code : ByteArray} {pc : Nat} (a : UInt8) (h : DkAt code pc [18, a]) : decode code pc = .ok (.ldc a.toNat, 2) := dk_of ((dk_bind (dk_u1 (h 0 _ rfl))).trans ((dk_bind (dk_u1 (h 1 _ rfl))).trans rfl))
theorem dk_20 {code : ByteArray} {pc : Nat} (a b : UInt8) (h : DkAt code pc [20, a, b]) : decode code pc = .ok (.ldc2_w (a.toNat * 256 + b.toNat), 3) := dk_of ((dk_bind (dk_u1 (h 0 _ rfl))).trans ((dk_bind (dk_u2 (h 1 _ rfl) (h 2 _ rfl))).trans rfl))
theorem dk_21 {code : ByteArray} {pc : Nat} (a : UInt8) (h : DkAt code pc [21, a]) : decode code pc = .ok (.iload a.toNat, 2) := dk_of ((dk_bind (dk_u1 (h 0 _ rfl))).trans ((dk_bind (dk_u1 (h 1 _ rfl))).trans rfl))
theorem dk_25 {code : ByteArray} {pc : Nat} (a : UInt8) (h : DkAt code pc [25, a]) : decode code pc = .ok (.aload a.toNat, 2) := dk_of ((dk_bind (dk_u1 (h 0 _ rfl))).trans ((dk_bind (dk_u1 (h 1 _ rfl))).trans rfl))
theorem dk_27 {code : ByteArray} {pc : Nat} (h : DkAt code pc [27]) : decode code pc = .ok (.iload_n 1, 1) := dk_of ((dk_bind (dk_u1 (h 0 _ rfl))).trans rfl)
theorem dk_28 {code : ByteArray} {pc : Nat} (h : DkAt code pc [28]) : decode code pc = .ok (.iload_n 2, 1) := dk_of ((dk_bind (dk_u1 (h 0 _ rfl))).trans rfl)
theorem dk_29 {code : ByteArray} {pc : Nat} (h : DkAt code pc [29]) : decode code pc = .ok (.iload_n 3, 1) := dk_of ((dk_bind (dk_u1 (h 0 _ rfl))).trans rfl)
theorem dk_33 {code : ByteArray} {pc : Nat} (h : DkAt code pc [33]) : decode code pc = .ok (.lload_n 3, 1) := dk_of ((dk_bind (dk_u1 (h 0 _ rfl))).trans rfl)
theorem dk_42 {code : ByteArray} {pc : Nat} (h : DkAt code pc [42]) : decode code pc = .ok (.aload_n 0, 1) := dk_of ((dk_bind (dk_u1 (h 0 _ rfl))).trans rfl)
theorem dk_43 {code : ByteArray} {pc : Nat} (h : DkAt code pc [43]) : decode code pc = .ok (.aload_n 1, 1) := dk_of ((dk_bind (dk_u1 (h 0 _ rfl))).trans rfl)
theorem dk_44 {code : ByteArray} {pc : Nat} (h : DkAt code pc [44]) : decode code pc = .ok (.aload_n 2, 1) := dk_of ((dk_bind (dk_u1 (h 0 _ rfl))).trans rfl)
theorem dk_45 {code : ByteArray} {pc : Nat} (h : DkAt code pc [45]) : decode code pc = .ok (.aload_n 3, 1) := dk_of ((dk_bind (dk_u1 (h 0 _ rfl))).trans rfl)
theorem dk_46 {code : ByteArray} {pc : Nat} (h : DkAt code pc [46]) : decode code pc = .ok (.iaload, 1) := dk_of ((dk_bind (dk_u1 (h 0 _ rfl))).trans rfl)
theorem dk_51 {code : ByteArray} {pc : Nat} (h : DkAt code pc [51]) : decode code pc = .ok (.baload, 1) := dk_of ((dk_bind (dk_u1 (h 0 _ rfl))).trans rfl)
theorem dk_54 {code : ByteArray} {pc : Nat} (a : UInt8) (h : DkAt code pc [54, a]) : decode code pc = .ok (.istore a.toNat, 2) := dk_of ((dk_bind (dk_u1 (h 0 _ rfl))).trans ((dk_bind (dk_u1 (h 1 _ rfl))).trans rfl))
theorem dk_58 {code : ByteArray} {pc : Nat} (a : UInt8) (h : DkAt code pc [58, a]) : decode code pc = .ok (.astore a.toNat, 2) := dk_of ((dk_bind (dk_u1 (h 0 _ rfl))).trans ((dk_bind (dk_u1 (h 1 _ rfl))).trans rfl))
theorem dk_60 {code : ByteArray} {pc : Nat} (h : DkAt code pc [60]) : decode code pc = .ok (.istore_n 1, 1) := dk_of ((dk_bind (dk_u1 (h 0 _ rfl))).trans rfl)
theorem dk_61 {code : ByteArray} {pc : Nat} (h : DkAt code pc [61]) : decode code pc = .ok (.istore_n 2, 1) := dk_of ((dk_bind (dk_u1 (h 0 _ rfl))).trans rfl)
theorem dk_62 {code : ByteArray} {pc : Nat} (h : DkAt code pc [62]) : decode code pc = .ok (.istore_n 3, 1) := dk_of ((dk_bind (dk_u1 (h 0 _ rfl))).trans rfl)
theorem dk_66 {code : ByteArray} {pc : Nat} (h : DkAt code pc [66]) : decode code pc = .ok (.lstore_n 3, 1) := dk_of ((dk_bind (dk_u1 (h 0 _ rfl))).trans rfl)
theorem dk_76 {code : ByteArray} {pc : Nat} (h : DkAt code pc [76]) : decode code pc = .ok (.astore_n 1, 1) := dk_of ((dk_bind (dk_u1 (h 0 _ rfl))).trans rfl)
theorem dk_77 {code : ByteArray} {pc : Nat} (h : DkAt code pc [77]) : decode code pc = .ok (.astore_n 2, 1) := dk_of ((dk_bind (dk_u1 (h 0 _ rfl))).trans rfl)
theorem dk_78 {code : ByteArray} {pc : Nat} (h : DkAt code pc [78]) : decode code pc = .ok (.astore_n 3, 1) := dk_of ((dk_bind (dk_u1 (h 0 _ rfl))).trans rfl)
theorem dk_79 {code : ByteArray} {pc : Nat} (h : DkAt code pc [79]) : decode code pc = .ok (.iastore, 1) := dk_of ((dk_bind (dk_u1 (h 0 _ rfl))).trans rfl)
theorem dk_84 {code : ByteArray} {pc : Nat} (h : DkAt code pc [84]) : decode code pc = .ok (.bastore, 1) := dk_of ((dk_bind (dk_u1 (h 0 _ rfl))).trans rfl)
theorem dk_89 {code : ByteArray} {pc : Nat} (h : DkAt code pc [89]) : decode code pc = .ok (.dup, 1) := dk_of ((dk_bind (dk_u1 (h 0 _ rfl))).trans rfl)
theorem dk_92 {code : ByteArray} {pc : Nat} (h : DkAt code pc [92]) : decode code pc = .ok (.dup2, 1) := dk_of ((dk_bind (dk_u1 (h 0 _ rfl))).trans rfl)
theorem dk_96 {code : ByteArray} {pc : Nat} (h : DkAt code pc [96]) : decode code pc = .ok (.iadd, 1) := dk_of ((dk_bind (dk_u1 (h 0 _ rfl))).trans rfl)
theorem dk_97 {code : ByteArray} {pc : Nat} (h : DkAt code pc [97]) : decode code pc = .ok (.ladd, 1) := dk_of ((dk_bind (dk_u1 (h 0 _ rfl))).trans rfl)
theorem dk_100 {code : ByteArray} {pc : Nat} (h : DkAt code pc [100]) : decode code pc = .ok (.isub, 1) := dk_of ((dk_bind (dk_u1 (h 0 _ rfl))).trans rfl)
theorem dk_104 {code : ByteArray} {pc : Nat} (h : DkAt code pc [104]) : decode code pc = .ok (.imul, 1) := dk_of ((dk_bind (dk_u1 (h 0 _ rfl))).trans rfl)
theorem dk_108 {code : ByteArray} {pc : Nat} (h : DkAt code pc [108]) : decode code pc = .ok (.idiv, 1) := dk_of ((dk_bind (dk_u1 (h 0 _ rfl))).trans rfl)
theorem dk_112 {code : ByteArray} {pc : Nat} (h : DkAt code pc [112]) : decode code pc = .ok (.irem, 1) := dk_of ((dk_bind (dk_u1 (h 0 _ rfl))).trans rfl)
theorem dk_116 {code : ByteArray} {pc : Nat} (h : DkAt code pc [116]) : decode code pc = .ok (.ineg, 1) := dk_of ((dk_bind (dk_u1 (h 0 _ rfl))).trans rfl)
theorem dk_120 {code : ByteArray} {pc : Nat} (h : DkAt code pc [120]) : decode code pc = .ok (.ishl, 1) := dk_of ((dk_bind (dk_u1 (h 0 _ rfl))).trans rfl)
theorem dk_122 {code : ByteArray} {pc : Nat} (h : DkAt code pc [122]) : decode code pc = .ok (.ishr, 1) := dk_of ((dk_bind (dk_u1 (h 0 _ rfl))).trans rfl)
theorem dk_123 {code : ByteArray} {pc : Nat} (h : DkAt code pc [123]) : decode code pc = .ok (.lshr, 1) := dk_of ((dk_bind (dk_u1 (h 0 _ rfl))).trans rfl)
theorem dk_124 {code : ByteArray} {pc : Nat} (h : DkAt code pc [124]) : decode code pc = .ok (.iushr, 1) := dk_of ((dk_bind (dk_u1 (h 0 _ rfl))).trans rfl)
theorem dk_126 {code : ByteArray} {pc : Nat} (h : DkAt code pc [126]) : decode code pc = .ok (.iand, 1) := dk_of ((dk_bind (dk_u1 (h 0 _ rfl))).trans rfl)
theorem dk_127 {code : ByteArray} {pc : Nat} (h : DkAt code pc [127]) : decode code pc = .ok (.land, 1) := dk_of ((dk_bind (dk_u1 (h 0 _ rfl))).trans rfl)
theorem dk_128 {code : ByteArray} {pc : Nat} (h : DkAt code pc [128]) : decode code pc = .ok (.ior, 1) := dk_of ((dk_bind (dk_u1 (h 0 _ rfl))).trans rfl)
theorem dk_132 {code : ByteArray} {pc : Nat} (a b : UInt8) (h : DkAt code pc [132, a, b]) : decode code pc = .ok (.iinc a.toNat (Reader.signed 8 b.toNat), 3) := dk_of ((dk_bind (dk_u1 (h 0 _ rfl))).trans ((dk_bind (dk_u1 (h 1 _ rfl))).trans ((dk_bind (dk_map (dk_u1 (h 2 _ rfl)))).trans rfl)))
theorem dk_133 {code : ByteArray} {pc : Nat} (h : DkAt code pc [133]) : decode code pc = .ok (.i2l, 1) := dk_of ((dk_bind (dk_u1 (h 0 _ rfl))).trans rfl)
theorem dk_136 {code : ByteArray} {pc : Nat} (h : DkAt code pc [136]) : decode code pc = .ok (.l2i, 1) := dk_of ((dk_bind (dk_u1 (h 0 _ rfl))).trans rfl)
theorem dk_145 {code : ByteArray} {pc : Nat} (h : DkAt code pc [145]) : decode code pc = .ok (.i2b, 1) := dk_of ((dk_bind (dk_u1 (h 0 _ rfl))).trans rfl)
theorem dk_153 {code : ByteArray} {pc : Nat} (a b : UInt8) (h : DkAt code pc [153, a, b]) : decode code pc = .ok (.ifCond .eq (Reader.signed 16 (a.toNat * 256 + b.toNat)), 3) := dk_of ((dk_bind (dk_u1 (h 0 _ rfl))).trans ((dk_bind (dk_map (dk_u2 (h 1 _ rfl) (h 2 _ rfl)))).trans rfl))
theorem dk_154 {code : ByteArray} {pc : Nat} (a b : UInt8) (h : DkAt code pc [154, a, b]) : decode code pc = .ok (.ifCond .ne (Reader.signed 16 (a.toNat * 256 + b.toNat)), 3) := dk_of ((dk_bind (dk_u1 (h 0 _ rfl))).trans ((dk_bind (dk_map (dk_u2 (h 1 _ rfl) (h 2 _ rfl)))).trans rfl))
theorem dk_155 {code : ByteArray} {pc : Nat} (a b : UInt8) (h : DkAt code pc [155, a, b]) : decode code pc = .ok (.ifCond .lt (Reader.signed 16 (a.toNat * 256 + b.toNat)), 3) := dk_of ((dk_bind (dk_u1 (h 0 _ rfl))).trans ((dk_bind (dk_map (dk_u2 (h 1 _ rfl) (h 2 _ rfl)))).trans rfl))
theorem dk_159 {code : ByteArray} {pc : Nat} (a b : UInt8) (h : DkAt code pc [159, a, b]) : decode code pc = .ok (.if_icmp .eq (Reader.signed 16 (a.toNat * 256 + b.toNat)), 3) := dk_of ((dk_bind (dk_u1 (h 0 _ rfl))).trans ((dk_bind (dk_map (dk_u2 (h 1 _ rfl) (h 2 _ rfl)))).trans rfl))
theorem dk_160 {code : ByteArray} {pc : Nat} (a b : UInt8) (h : DkAt code pc [160, a, b]) : decode code pc = .ok (.if_icmp .ne (Reader.signed 16 (a.toNat * 256 + b.toNat)), 3) := dk_of ((dk_bind (dk_u1 (h 0 _ rfl))).trans ((dk_bind (dk_map (dk_u2 (h 1 _ rfl) (h 2 _ rfl)))).trans rfl))
theorem dk_161 {code : ByteArray} {pc : Nat} (a b : UInt8) (h : DkAt code pc [161, a, b]) : decode code pc = .ok (.if_icmp .lt (Reader.signed 16 (a.toNat * 256 + b.toNat)), 3) := dk_of ((dk_bind (dk_u1 (h 0 _ rfl))).trans ((dk_bind (dk_map (dk_u2 (h 1 _ rfl) (h 2 _ rfl)))).trans rfl))
theorem dk_162 {code : ByteArray} {pc : Nat} (a b : UInt8) (h : DkAt code pc [162, a, b]) : decode code pc = .ok (.if_icmp .ge (Reader.signed 16 (a.toNat * 256 + b.toNat)), 3) := dk_of ((dk_bind (dk_u1 (h 0 _ rfl))).trans ((dk_bind (dk_map (dk_u2 (h 1 _ rfl) (h 2 _ rfl)))).trans rfl))
theorem dk_163 {code : ByteArray} {pc : Nat} (a b : UInt8) (h : DkAt code pc [163, a, b]) : decode code pc = .ok (.if_icmp .gt (Reader.signed 16 (a.toNat * 256 + b.toNat)), 3) := dk_of ((dk_bind (dk_u1 (h 0 _ rfl))).trans ((dk_bind (dk_map (dk_u2 (h 1 _ rfl) (h 2 _ rfl)))).trans rfl))
theorem dk_164 {code : ByteArray} {pc : Nat} (a b : UInt8) (h : DkAt code pc [164, a, b]) : decode code pc = .ok (.if_icmp .le (Reader.signed 16 (a.toNat * 256 + b.toNat)), 3) := dk_of ((dk_bind (dk_u1 (h 0 _ rfl))).trans ((dk_bind (dk_map (dk_u2 (h 1 _ rfl) (h 2 _ rfl)))).trans rfl))
theorem dk_167 {code : ByteArray} {pc : Nat} (a b : UInt8) (h : DkAt code pc [167, a, b]) : decode code pc = .ok (.goto (Reader.signed 16 (a.toNat * 256 + b.toNat)), 3) := dk_of ((dk_bind (dk_u1 (h 0 _ rfl))).trans ((dk_bind (dk_map (dk_u2 (h 1 _ rfl) (h 2 _ rfl)))).trans rfl))
theorem dk_172 {code : ByteArray} {pc : Nat} (h : DkAt code pc [172]) : decode code pc = .ok (.ireturn, 1) := dk_of ((dk_bind (dk_u1 (h 0 _ rfl))).trans rfl)
theorem dk_176 {code : ByteArray} {pc : Nat} (h : DkAt code pc [176]) : decode code pc = .ok (.areturn, 1) := dk_of ((dk_bind (dk_u1 (h 0 _ rfl))).trans rfl)
theorem dk_177 {code : ByteArray} {pc : Nat} (h : DkAt code pc [177]) : decode code pc = .ok (.return_, 1) := dk_of ((dk_bind (dk_u1 (h 0 _ rfl))).trans rfl)
theorem dk_180 {code : ByteArray} {pc : Nat} (a b : UInt8) (h : DkAt code pc [180, a, b]) : decode code pc = .ok (.getfield (a.toNat * 256 + b.toNat), 3) := dk_of ((dk_bind (dk_u1 (h 0 _ rfl))).trans ((dk_bind (dk_u2 (h 1 _ rfl) (h 2 _ rfl))).trans rfl))
theorem dk_181 {code : ByteArray} {pc : Nat} (a b : UInt8) (h : DkAt code pc [181, a, b]) : decode code pc = .ok (.putfield (a.toNat * 256 + b.toNat), 3) := dk_of ((dk_bind (dk_u1 (h 0 _ rfl))).trans ((dk_bind (dk_u2 (h 1 _ rfl) (h 2 _ rfl))).trans rfl))
theorem dk_182 {code : ByteArray} {pc : Nat} (a b : UInt8) (h : DkAt code pc [182, a, b]) : decode code pc = .ok (.invokevirtual (a.toNat * 256 + b.toNat), 3) := dk_of ((dk_bind (dk_u1 (h 0 _ rfl))).trans ((dk_bind (dk_u2 (h 1 _ rfl) (h 2 _ rfl))).trans rfl))
theorem dk_183 {code : ByteArray} {pc : Nat} (a b : UInt8) (h : DkAt code pc [183, a, b]) : decode code pc = .ok (.invokespecial (a.toNat * 256 + b.toNat), 3) := dk_of ((dk_bind (dk_u1 (h 0 _ rfl))).trans ((dk_bind (dk_u2 (h 1 _ rfl) (h 2 _ rfl))).trans rfl))
theorem dk_184 {code : ByteArray} {pc : Nat} (a b : UInt8) (h : DkAt code pc [184, a, b]) : decode code pc = .ok (.invokestatic (a.toNat * 256 + b.toNat), 3) := dk_of ((dk_bind (dk_u1 (h 0 _ rfl))).trans ((dk_bind (dk_u2 (h 1 _ rfl) (h 2 _ rfl))).trans rfl))
theorem dk_187 {code : ByteArray} {pc : Nat} (a b : UInt8) (h : DkAt code pc [187, a, b]) : decode code pc = .ok (.new (a.toNat * 256 + b.toNat), 3) := dk_of ((dk_bind (dk_u1 (h 0 _ rfl))).trans ((dk_bind (dk_u2 (h 1 _ rfl) (h 2 _ rfl))).trans rfl))
theorem dk_188_8 {code : ByteArray} {pc : Nat} (h : DkAt code pc [188, 8]) : decode code pc = .ok (.newarray .byte, 2) := dk_of ((dk_bind (dk_u1 (h 0 _ rfl))).trans ((dk_bind (dk_u1 (h 1 _ rfl))).trans rfl))
theorem dk_188_10 {code : ByteArray} {pc : Nat} (h : DkAt code pc [188, 10]) : decode code pc = .ok (.newarray .int, 2) := dk_of ((dk_bind (dk_u1 (h 0 _ rfl))).trans ((dk_bind (dk_u1 (h 1 _ rfl))).trans rfl))
theorem dk_190 {code : ByteArray} {pc : Nat} (h : DkAt code pc [190]) : decode code pc = .ok (.arraylength, 1) := dk_of ((dk_bind (dk_u1 (h 0 _ rfl))).trans rfl)
/-! Wnaf -/
set_option maxRecDepth 100000
def RX2 : String := "Wnaf"
abbrev cX2_getSignedVar : ByteArray := prog_1_method_2_code
def yX2_getSignedVar : MethodName := ⟨RX2, "getSignedVar", "([II[B)V"⟩
def dkwX2_getSignedVar_7 : List UInt8 := [122, 145, 84, 21, 5, 27, 96, 54, 5, 167, 255, 186, 132, 7, 1, 132, 5, 240, 167, 255, 164, 177]
abbrev dktX2_getSignedVar_7 : List UInt8 := dkwX2_getSignedVar_7 ++ []
def dkwX2_getSignedVar_6 : List UInt8 := [21, 4, 120, 54, 11, 21, 11, 16, 31, 124, 54, 6, 44, 21, 7, 7, 120, 21, 5, 96, 21, 11, 21, 4]
abbrev dktX2_getSignedVar_6 : List UInt8 := dkwX2_getSignedVar_6 ++ dktX2_getSignedVar_7
def dkwX2_getSignedVar_5 : List UInt8 := [21, 9, 4, 126, 54, 10, 21, 10, 21, 6, 160, 0, 9, 132, 5, 1, 167, 255, 226, 21, 9, 4, 128]
abbrev dktX2_getSignedVar_5 : List UInt8 := dkwX2_getSignedVar_5 ++ dktX2_getSignedVar_6
def dkwX2_getSignedVar_4 : List UInt8 := [162, 0, 91, 45, 21, 7, 46, 54, 8, 21, 5, 16, 16, 162, 0, 69, 21, 8, 21, 5, 124, 54, 9]
abbrev dktX2_getSignedVar_4 : List UInt8 := dkwX2_getSignedVar_4 ++ dktX2_getSignedVar_5
def dkwX2_getSignedVar_3 : List UInt8 := [167, 255, 212, 16, 32, 27, 100, 54, 4, 3, 54, 5, 3, 54, 6, 3, 54, 7, 21, 7, 45, 190]
abbrev dktX2_getSignedVar_3 : List UInt8 := dkwX2_getSignedVar_3 ++ dktX2_getSignedVar_4
def dkwX2_getSignedVar_2 : List UInt8 := [16, 16, 124, 21, 4, 16, 16, 120, 128, 79, 45, 132, 6, 255, 21, 6, 21, 7, 89, 54, 4, 79]
abbrev dktX2_getSignedVar_2 : List UInt8 := dkwX2_getSignedVar_2 ++ dktX2_getSignedVar_3
def dkwX2_getSignedVar_1 : List UInt8 := [54, 6, 132, 5, 255, 21, 5, 155, 0, 42, 42, 21, 5, 46, 54, 7, 45, 132, 6, 255, 21, 6, 21, 7]
abbrev dktX2_getSignedVar_1 : List UInt8 := dkwX2_getSignedVar_1 ++ dktX2_getSignedVar_2
def dkwX2_getSignedVar_0 : List UInt8 := [42, 190, 5, 104, 188, 10, 78, 42, 42, 190, 4, 100, 46, 16, 31, 122, 54, 4, 42, 190, 54, 5, 45, 190]
abbrev dktX2_getSignedVar_0 : List UInt8 := dkwX2_getSignedVar_0 ++ dktX2_getSignedVar_1
theorem dksX2_getSignedVar_0 : cX2_getSignedVar.data.toList.drop 0 = dktX2_getSignedVar_0 := by decide +kernel
theorem dksX2_getSignedVar_1 : cX2_getSignedVar.data.toList.drop 24 = dktX2_getSignedVar_1 := dk_seg dksX2_getSignedVar_0 24 rfl rfl
theorem dksX2_getSignedVar_2 : cX2_getSignedVar.data.toList.drop 48 = dktX2_getSignedVar_2 := dk_seg dksX2_getSignedVar_1 24 rfl rfl
theorem dksX2_getSignedVar_3 : cX2_getSignedVar.data.toList.drop 70 = dktX2_getSignedVar_3 := dk_seg dksX2_getSignedVar_2 22 rfl rfl
theorem dksX2_getSignedVar_4 : cX2_getSignedVar.data.toList.drop 92 = dktX2_getSignedVar_4 := dk_seg dksX2_getSignedVar_3 22 rfl rfl
theorem dksX2_getSignedVar_5 : cX2_getSignedVar.data.toList.drop 115 = dktX2_getSignedVar_5 := dk_seg dksX2_getSignedVar_4 23 rfl rfl
theorem dksX2_getSignedVar_6 : cX2_getSignedVar.data.toList.drop 138 = dktX2_getSignedVar_6 := dk_seg dksX2_getSignedVar_5 23 rfl rfl
theorem dksX2_getSignedVar_7 : cX2_getSignedVar.data.toList.drop 162 = dktX2_getSignedVar_7 := dk_seg dksX2_getSignedVar_6 24 rfl rfl
theorem dX2_getSignedVar_0 : decode cX2_getSignedVar 0 = .ok (.aload_n 0, 1) := dk_42 (dk_at dksX2_getSignedVar_0 0 rfl rfl)
theorem dX2_getSignedVar_1 : decode cX2_getSignedVar 1 = .ok (.arraylength, 1) := dk_190 (dk_at dksX2_getSignedVar_0 1 rfl rfl)
theorem dX2_getSignedVar_2 : decode cX2_getSignedVar 2 = .ok (.iconst 2, 1) := dk_5 (dk_at dksX2_getSignedVar_0 2 rfl rfl)
theorem dX2_getSignedVar_3 : decode cX2_getSignedVar 3 = .ok (.imul, 1) := dk_104 (dk_at dksX2_getSignedVar_0 3 rfl rfl)
theorem dX2_getSignedVar_4 : decode cX2_getSignedVar 4 = .ok (.newarray .int, 2) := dk_188_10 (dk_at dksX2_getSignedVar_0 4 rfl rfl)
theorem dX2_getSignedVar_6 : decode cX2_getSignedVar 6 = .ok (.astore_n 3, 1) := dk_78 (dk_at dksX2_getSignedVar_0 6 rfl rfl)
theorem dX2_getSignedVar_7 : decode cX2_getSignedVar 7 = .ok (.aload_n 0, 1) := dk_42 (dk_at dksX2_getSignedVar_0 7 rfl rfl)
theorem dX2_getSignedVar_8 : decode cX2_getSignedVar 8 = .ok (.aload_n 0, 1) := dk_42 (dk_at dksX2_getSignedVar_0 8 rfl rfl)
theorem dX2_getSignedVar_9 : decode cX2_getSignedVar 9 = .ok (.arraylength, 1) := dk_190 (dk_at dksX2_getSignedVar_0 9 rfl rfl)
theorem dX2_getSignedVar_10 : decode cX2_getSignedVar 10 = .ok (.iconst 1, 1) := dk_4 (dk_at dksX2_getSignedVar_0 10 rfl rfl)
theorem dX2_getSignedVar_11 : decode cX2_getSignedVar 11 = .ok (.isub, 1) := dk_100 (dk_at dksX2_getSignedVar_0 11 rfl rfl)
theorem dX2_getSignedVar_12 : decode cX2_getSignedVar 12 = .ok (.iaload, 1) := dk_46 (dk_at dksX2_getSignedVar_0 12 rfl rfl)
theorem dX2_getSignedVar_13 : decode cX2_getSignedVar 13 = .ok (.bipush 31, 2) := dk_16 31 (dk_at dksX2_getSignedVar_0 13 rfl rfl)
theorem dX2_getSignedVar_15 : decode cX2_getSignedVar 15 = .ok (.ishr, 1) := dk_122 (dk_at dksX2_getSignedVar_0 15 rfl rfl)
theorem dX2_getSignedVar_16 : decode cX2_getSignedVar 16 = .ok (.istore 4, 2) := dk_54 4 (dk_at dksX2_getSignedVar_0 16 rfl rfl)
theorem dX2_getSignedVar_18 : decode cX2_getSignedVar 18 = .ok (.aload_n 0, 1) := dk_42 (dk_at dksX2_getSignedVar_0 18 rfl rfl)
theorem dX2_getSignedVar_19 : decode cX2_getSignedVar 19 = .ok (.arraylength, 1) := dk_190 (dk_at dksX2_getSignedVar_0 19 rfl rfl)
theorem dX2_getSignedVar_20 : decode cX2_getSignedVar 20 = .ok (.istore 5, 2) := dk_54 5 (dk_at dksX2_getSignedVar_0 20 rfl rfl)
theorem dX2_getSignedVar_22 : decode cX2_getSignedVar 22 = .ok (.aload_n 3, 1) := dk_45 (dk_at dksX2_getSignedVar_0 22 rfl rfl)
theorem dX2_getSignedVar_23 : decode cX2_getSignedVar 23 = .ok (.arraylength, 1) := dk_190 (dk_at dksX2_getSignedVar_0 23 rfl rfl)
theorem dX2_getSignedVar_24 : decode cX2_getSignedVar 24 = .ok (.istore 6, 2) := dk_54 6 (dk_at dksX2_getSignedVar_1 0 rfl rfl)
theorem dX2_getSignedVar_26 : decode cX2_getSignedVar 26 = .ok (.iinc 5 (-1), 3) := dk_132 5 255 (dk_at dksX2_getSignedVar_1 2 rfl rfl)
theorem dX2_getSignedVar_29 : decode cX2_getSignedVar 29 = .ok (.iload 5, 2) := dk_21 5 (dk_at dksX2_getSignedVar_1 5 rfl rfl)
theorem dX2_getSignedVar_31 : decode cX2_getSignedVar 31 = .ok (.ifCond .lt 42, 3) := dk_155 0 42 (dk_at dksX2_getSignedVar_1 7 rfl rfl)
theorem dX2_getSignedVar_34 : decode cX2_getSignedVar 34 = .ok (.aload_n 0, 1) := dk_42 (dk_at dksX2_getSignedVar_1 10 rfl rfl)
theorem dX2_getSignedVar_35 : decode cX2_getSignedVar 35 = .ok (.iload 5, 2) := dk_21 5 (dk_at dksX2_getSignedVar_1 11 rfl rfl)
theorem dX2_getSignedVar_37 : decode cX2_getSignedVar 37 = .ok (.iaload, 1) := dk_46 (dk_at dksX2_getSignedVar_1 13 rfl rfl)
theorem dX2_getSignedVar_38 : decode cX2_getSignedVar 38 = .ok (.istore 7, 2) := dk_54 7 (dk_at dksX2_getSignedVar_1 14 rfl rfl)
theorem dX2_getSignedVar_40 : decode cX2_getSignedVar 40 = .ok (.aload_n 3, 1) := dk_45 (dk_at dksX2_getSignedVar_1 16 rfl rfl)
theorem dX2_getSignedVar_41 : decode cX2_getSignedVar 41 = .ok (.iinc 6 (-1), 3) := dk_132 6 255 (dk_at dksX2_getSignedVar_1 17 rfl rfl)
theorem dX2_getSignedVar_44 : decode cX2_getSignedVar 44 = .ok (.iload 6, 2) := dk_21 6 (dk_at dksX2_getSignedVar_1 20 rfl rfl)
theorem dX2_getSignedVar_46 : decode cX2_getSignedVar 46 = .ok (.iload 7, 2) := dk_21 7 (dk_at dksX2_getSignedVar_1 22 rfl rfl)
theorem dX2_getSignedVar_48 : decode cX2_getSignedVar 48 = .ok (.bipush 16, 2) := dk_16 16 (dk_at dksX2_getSignedVar_2 0 rfl rfl)
theorem dX2_getSignedVar_50 : decode cX2_getSignedVar 50 = .ok (.iushr, 1) := dk_124 (dk_at dksX2_getSignedVar_2 2 rfl rfl)
theorem dX2_getSignedVar_51 : decode cX2_getSignedVar 51 = .ok (.iload 4, 2) := dk_21 4 (dk_at dksX2_getSignedVar_2 3 rfl rfl)
theorem dX2_getSignedVar_53 : decode cX2_getSignedVar 53 = .ok (.bipush 16, 2) := dk_16 16 (dk_at dksX2_getSignedVar_2 5 rfl rfl)
theorem dX2_getSignedVar_55 : decode cX2_getSignedVar 55 = .ok (.ishl, 1) := dk_120 (dk_at dksX2_getSignedVar_2 7 rfl rfl)
theorem dX2_getSignedVar_56 : decode cX2_getSignedVar 56 = .ok (.ior, 1) := dk_128 (dk_at dksX2_getSignedVar_2 8 rfl rfl)
theorem dX2_getSignedVar_57 : decode cX2_getSignedVar 57 = .ok (.iastore, 1) := dk_79 (dk_at dksX2_getSignedVar_2 9 rfl rfl)
theorem dX2_getSignedVar_58 : decode cX2_getSignedVar 58 = .ok (.aload_n 3, 1) := dk_45 (dk_at dksX2_getSignedVar_2 10 rfl rfl)
theorem dX2_getSignedVar_59 : decode cX2_getSignedVar 59 = .ok (.iinc 6 (-1), 3) := dk_132 6 255 (dk_at dksX2_getSignedVar_2 11 rfl rfl)
theorem dX2_getSignedVar_62 : decode cX2_getSignedVar 62 = .ok (.iload 6, 2) := dk_21 6 (dk_at dksX2_getSignedVar_2 14 rfl rfl)
theorem dX2_getSignedVar_64 : decode cX2_getSignedVar 64 = .ok (.iload 7, 2) := dk_21 7 (dk_at dksX2_getSignedVar_2 16 rfl rfl)
theorem dX2_getSignedVar_66 : decode cX2_getSignedVar 66 = .ok (.dup, 1) := dk_89 (dk_at dksX2_getSignedVar_2 18 rfl rfl)
theorem dX2_getSignedVar_67 : decode cX2_getSignedVar 67 = .ok (.istore 4, 2) := dk_54 4 (dk_at dksX2_getSignedVar_2 19 rfl rfl)
theorem dX2_getSignedVar_69 : decode cX2_getSignedVar 69 = .ok (.iastore, 1) := dk_79 (dk_at dksX2_getSignedVar_2 21 rfl rfl)
theorem dX2_getSignedVar_70 : decode cX2_getSignedVar 70 = .ok (.goto (-44), 3) := dk_167 255 212 (dk_at dksX2_getSignedVar_3 0 rfl rfl)
theorem dX2_getSignedVar_73 : decode cX2_getSignedVar 73 = .ok (.bipush 32, 2) := dk_16 32 (dk_at dksX2_getSignedVar_3 3 rfl rfl)
theorem dX2_getSignedVar_75 : decode cX2_getSignedVar 75 = .ok (.iload_n 1, 1) := dk_27 (dk_at dksX2_getSignedVar_3 5 rfl rfl)
theorem dX2_getSignedVar_76 : decode cX2_getSignedVar 76 = .ok (.isub, 1) := dk_100 (dk_at dksX2_getSignedVar_3 6 rfl rfl)
theorem dX2_getSignedVar_77 : decode cX2_getSignedVar 77 = .ok (.istore 4, 2) := dk_54 4 (dk_at dksX2_getSignedVar_3 7 rfl rfl)
theorem dX2_getSignedVar_79 : decode cX2_getSignedVar 79 = .ok (.iconst 0, 1) := dk_3 (dk_at dksX2_getSignedVar_3 9 rfl rfl)
theorem dX2_getSignedVar_80 : decode cX2_getSignedVar 80 = .ok (.istore 5, 2) := dk_54 5 (dk_at dksX2_getSignedVar_3 10 rfl rfl)
theorem dX2_getSignedVar_82 : decode cX2_getSignedVar 82 = .ok (.iconst 0, 1) := dk_3 (dk_at dksX2_getSignedVar_3 12 rfl rfl)
theorem dX2_getSignedVar_83 : decode cX2_getSignedVar 83 = .ok (.istore 6, 2) := dk_54 6 (dk_at dksX2_getSignedVar_3 13 rfl rfl)
theorem dX2_getSignedVar_85 : decode cX2_getSignedVar 85 = .ok (.iconst 0, 1) := dk_3 (dk_at dksX2_getSignedVar_3 15 rfl rfl)
theorem dX2_getSignedVar_86 : decode cX2_getSignedVar 86 = .ok (.istore 7, 2) := dk_54 7 (dk_at dksX2_getSignedVar_3 16 rfl rfl)
theorem dX2_getSignedVar_88 : decode cX2_getSignedVar 88 = .ok (.iload 7, 2) := dk_21 7 (dk_at dksX2_getSignedVar_3 18 rfl rfl)
theorem dX2_getSignedVar_90 : decode cX2_getSignedVar 90 = .ok (.aload_n 3, 1) := dk_45 (dk_at dksX2_getSignedVar_3 20 rfl rfl)
theorem dX2_getSignedVar_91 : decode cX2_getSignedVar 91 = .ok (.arraylength, 1) := dk_190 (dk_at dksX2_getSignedVar_3 21 rfl rfl)
theorem dX2_getSignedVar_92 : decode cX2_getSignedVar 92 = .ok (.if_icmp .ge 91, 3) := dk_162 0 91 (dk_at dksX2_getSignedVar_4 0 rfl rfl)
theorem dX2_getSignedVar_95 : decode cX2_getSignedVar 95 = .ok (.aload_n 3, 1) := dk_45 (dk_at dksX2_getSignedVar_4 3 rfl rfl)
theorem dX2_getSignedVar_96 : decode cX2_getSignedVar 96 = .ok (.iload 7, 2) := dk_21 7 (dk_at dksX2_getSignedVar_4 4 rfl rfl)
theorem dX2_getSignedVar_98 : decode cX2_getSignedVar 98 = .ok (.iaload, 1) := dk_46 (dk_at dksX2_getSignedVar_4 6 rfl rfl)
theorem dX2_getSignedVar_99 : decode cX2_getSignedVar 99 = .ok (.istore 8, 2) := dk_54 8 (dk_at dksX2_getSignedVar_4 7 rfl rfl)
theorem dX2_getSignedVar_101 : decode cX2_getSignedVar 101 = .ok (.iload 5, 2) := dk_21 5 (dk_at dksX2_getSignedVar_4 9 rfl rfl)
theorem dX2_getSignedVar_103 : decode cX2_getSignedVar 103 = .ok (.bipush 16, 2) := dk_16 16 (dk_at dksX2_getSignedVar_4 11 rfl rfl)
theorem dX2_getSignedVar_105 : decode cX2_getSignedVar 105 = .ok (.if_icmp .ge 69, 3) := dk_162 0 69 (dk_at dksX2_getSignedVar_4 13 rfl rfl)
theorem dX2_getSignedVar_108 : decode cX2_getSignedVar 108 = .ok (.iload 8, 2) := dk_21 8 (dk_at dksX2_getSignedVar_4 16 rfl rfl)
theorem dX2_getSignedVar_110 : decode cX2_getSignedVar 110 = .ok (.iload 5, 2) := dk_21 5 (dk_at dksX2_getSignedVar_4 18 rfl rfl)
theorem dX2_getSignedVar_112 : decode cX2_getSignedVar 112 = .ok (.iushr, 1) := dk_124 (dk_at dksX2_getSignedVar_4 20 rfl rfl)
theorem dX2_getSignedVar_113 : decode cX2_getSignedVar 113 = .ok (.istore 9, 2) := dk_54 9 (dk_at dksX2_getSignedVar_4 21 rfl rfl)
theorem dX2_getSignedVar_115 : decode cX2_getSignedVar 115 = .ok (.iload 9, 2) := dk_21 9 (dk_at dksX2_getSignedVar_5 0 rfl rfl)
theorem dX2_getSignedVar_117 : decode cX2_getSignedVar 117 = .ok (.iconst 1, 1) := dk_4 (dk_at dksX2_getSignedVar_5 2 rfl rfl)
theorem dX2_getSignedVar_118 : decode cX2_getSignedVar 118 = .ok (.iand, 1) := dk_126 (dk_at dksX2_getSignedVar_5 3 rfl rfl)
theorem dX2_getSignedVar_119 : decode cX2_getSignedVar 119 = .ok (.istore 10, 2) := dk_54 10 (dk_at dksX2_getSignedVar_5 4 rfl rfl)
theorem dX2_getSignedVar_121 : decode cX2_getSignedVar 121 = .ok (.iload 10, 2) := dk_21 10 (dk_at dksX2_getSignedVar_5 6 rfl rfl)
theorem dX2_getSignedVar_123 : decode cX2_getSignedVar 123 = .ok (.iload 6, 2) := dk_21 6 (dk_at dksX2_getSignedVar_5 8 rfl rfl)
theorem dX2_getSignedVar_125 : decode cX2_getSignedVar 125 = .ok (.if_icmp .ne 9, 3) := dk_160 0 9 (dk_at dksX2_getSignedVar_5 10 rfl rfl)
theorem dX2_getSignedVar_128 : decode cX2_getSignedVar 128 = .ok (.iinc 5 1, 3) := dk_132 5 1 (dk_at dksX2_getSignedVar_5 13 rfl rfl)
theorem dX2_getSignedVar_131 : decode cX2_getSignedVar 131 = .ok (.goto (-30), 3) := dk_167 255 226 (dk_at dksX2_getSignedVar_5 16 rfl rfl)
theorem dX2_getSignedVar_134 : decode cX2_getSignedVar 134 = .ok (.iload 9, 2) := dk_21 9 (dk_at dksX2_getSignedVar_5 19 rfl rfl)
theorem dX2_getSignedVar_136 : decode cX2_getSignedVar 136 = .ok (.iconst 1, 1) := dk_4 (dk_at dksX2_getSignedVar_5 21 rfl rfl)
theorem dX2_getSignedVar_137 : decode cX2_getSignedVar 137 = .ok (.ior, 1) := dk_128 (dk_at dksX2_getSignedVar_5 22 rfl rfl)
theorem dX2_getSignedVar_138 : decode cX2_getSignedVar 138 = .ok (.iload 4, 2) := dk_21 4 (dk_at dksX2_getSignedVar_6 0 rfl rfl)
theorem dX2_getSignedVar_140 : decode cX2_getSignedVar 140 = .ok (.ishl, 1) := dk_120 (dk_at dksX2_getSignedVar_6 2 rfl rfl)
theorem dX2_getSignedVar_141 : decode cX2_getSignedVar 141 = .ok (.istore 11, 2) := dk_54 11 (dk_at dksX2_getSignedVar_6 3 rfl rfl)
theorem dX2_getSignedVar_143 : decode cX2_getSignedVar 143 = .ok (.iload 11, 2) := dk_21 11 (dk_at dksX2_getSignedVar_6 5 rfl rfl)
theorem dX2_getSignedVar_145 : decode cX2_getSignedVar 145 = .ok (.bipush 31, 2) := dk_16 31 (dk_at dksX2_getSignedVar_6 7 rfl rfl)
theorem dX2_getSignedVar_147 : decode cX2_getSignedVar 147 = .ok (.iushr, 1) := dk_124 (dk_at dksX2_getSignedVar_6 9 rfl rfl)
theorem dX2_getSignedVar_148 : decode cX2_getSignedVar 148 = .ok (.istore 6, 2) := dk_54 6 (dk_at dksX2_getSignedVar_6 10 rfl rfl)
theorem dX2_getSignedVar_150 : decode cX2_getSignedVar 150 = .ok (.aload_n 2, 1) := dk_44 (dk_at dksX2_getSignedVar_6 12 rfl rfl)
theorem dX2_getSignedVar_151 : decode cX2_getSignedVar 151 = .ok (.iload 7, 2) := dk_21 7 (dk_at dksX2_getSignedVar_6 13 rfl rfl)
theorem dX2_getSignedVar_153 : decode cX2_getSignedVar 153 = .ok (.iconst 4, 1) := dk_7 (dk_at dksX2_getSignedVar_6 15 rfl rfl)
theorem dX2_getSignedVar_154 : decode cX2_getSignedVar 154 = .ok (.ishl, 1) := dk_120 (dk_at dksX2_getSignedVar_6 16 rfl rfl)
theorem dX2_getSignedVar_155 : decode cX2_getSignedVar 155 = .ok (.iload 5, 2) := dk_21 5 (dk_at dksX2_getSignedVar_6 17 rfl rfl)
theorem dX2_getSignedVar_157 : decode cX2_getSignedVar 157 = .ok (.iadd, 1) := dk_96 (dk_at dksX2_getSignedVar_6 19 rfl rfl)
theorem dX2_getSignedVar_158 : decode cX2_getSignedVar 158 = .ok (.iload 11, 2) := dk_21 11 (dk_at dksX2_getSignedVar_6 20 rfl rfl)
theorem dX2_getSignedVar_160 : decode cX2_getSignedVar 160 = .ok (.iload 4, 2) := dk_21 4 (dk_at dksX2_getSignedVar_6 22 rfl rfl)
theorem dX2_getSignedVar_162 : decode cX2_getSignedVar 162 = .ok (.ishr, 1) := dk_122 (dk_at dksX2_getSignedVar_7 0 rfl rfl)
theorem dX2_getSignedVar_163 : decode cX2_getSignedVar 163 = .ok (.i2b, 1) := dk_145 (dk_at dksX2_getSignedVar_7 1 rfl rfl)
theorem dX2_getSignedVar_164 : decode cX2_getSignedVar 164 = .ok (.bastore, 1) := dk_84 (dk_at dksX2_getSignedVar_7 2 rfl rfl)
theorem dX2_getSignedVar_165 : decode cX2_getSignedVar 165 = .ok (.iload 5, 2) := dk_21 5 (dk_at dksX2_getSignedVar_7 3 rfl rfl)
theorem dX2_getSignedVar_167 : decode cX2_getSignedVar 167 = .ok (.iload_n 1, 1) := dk_27 (dk_at dksX2_getSignedVar_7 5 rfl rfl)
theorem dX2_getSignedVar_168 : decode cX2_getSignedVar 168 = .ok (.iadd, 1) := dk_96 (dk_at dksX2_getSignedVar_7 6 rfl rfl)
theorem dX2_getSignedVar_169 : decode cX2_getSignedVar 169 = .ok (.istore 5, 2) := dk_54 5 (dk_at dksX2_getSignedVar_7 7 rfl rfl)
theorem dX2_getSignedVar_171 : decode cX2_getSignedVar 171 = .ok (.goto (-70), 3) := dk_167 255 186 (dk_at dksX2_getSignedVar_7 9 rfl rfl)
theorem dX2_getSignedVar_174 : decode cX2_getSignedVar 174 = .ok (.iinc 7 1, 3) := dk_132 7 1 (dk_at dksX2_getSignedVar_7 12 rfl rfl)
theorem dX2_getSignedVar_177 : decode cX2_getSignedVar 177 = .ok (.iinc 5 (-16), 3) := dk_132 5 240 (dk_at dksX2_getSignedVar_7 15 rfl rfl)
theorem dX2_getSignedVar_180 : decode cX2_getSignedVar 180 = .ok (.goto (-92), 3) := dk_167 255 164 (dk_at dksX2_getSignedVar_7 18 rfl rfl)
theorem dX2_getSignedVar_183 : decode cX2_getSignedVar 183 = .ok (.return_, 1) := dk_177 (dk_at dksX2_getSignedVar_7 21 rfl rfl)
theorem q2 : (Jvm.Cond.initialized "Wnaf") ∈ lw_all := lw_g (lw_at lw_m0 2 rfl) rfl
theorem q62 : (Jvm.Cond.static ({ cls := "Wnaf", name := "getSignedVar", desc := "([II[B)V" } : Jvm.MethodName)) ∈ lw_all := lw_g (lw_at lw_m0 62 rfl) rfl
theorem q63 : (Jvm.Cond.code ({ cls := "Wnaf", name := "getSignedVar", desc := "([II[B)V" } : Jvm.MethodName) prog_1_method_2_code (12 : Nat) (Option.none : Option Jvm.ClassFile.FieldType)) ∈ lw_all := lw_g (lw_at lw_m0 63 rfl) rfl
/-! WnafDesk -/
set_option maxRecDepth 100000
def RX1 : String := "WnafDesk"
def TX1 : u_T := fun k => match k with
  | 0 => ("WnafDesk", "n", "[I", true)
  | 1 => ("WnafDesk", "digits", "[B", false)
  | _ => ("WnafDesk", "width", "I", false)
def tyX1 : Nat → FieldType := fun k => match k with
  | 0 => .array .int
  | 1 => .array .byte
  | _ => .int
abbrev wsX10 : List Cond := u_ws RX1 TX1 3
theorem nmX1 : ∀ a, a < 3 → ∀ b, b < 3 → a ≠ b → (TX1 a).2.1 ≠ (TX1 b).2.1 := by decide +kernel
theorem tyX1_ok : ∀ k, k < 3 → parseFieldDescriptor (TX1 k).2.2.1 = some (tyX1 k) := by decide +kernel
abbrev cX1_init : ByteArray := prog_2_method_1_code
def yX1_init : MethodName := ⟨RX1, "<init>", "()V"⟩
def dkwX1_init_1 : List UInt8 := [181, 0, 17, 177]
abbrev dktX1_init_1 : List UInt8 := dkwX1_init_1 ++ []
def dkwX1_init_0 : List UInt8 := [42, 183, 0, 1, 42, 16, 8, 188, 10, 181, 0, 7, 42, 17, 0, 253, 188, 8, 181, 0, 13, 42, 7]
abbrev dktX1_init_0 : List UInt8 := dkwX1_init_0 ++ dktX1_init_1
theorem dksX1_init_0 : cX1_init.data.toList.drop 0 = dktX1_init_0 := by decide +kernel
theorem dksX1_init_1 : cX1_init.data.toList.drop 23 = dktX1_init_1 := dk_seg dksX1_init_0 23 rfl rfl
theorem dX1_init_0 : decode cX1_init 0 = .ok (.aload_n 0, 1) := dk_42 (dk_at dksX1_init_0 0 rfl rfl)
theorem dX1_init_1 : decode cX1_init 1 = .ok (.invokespecial 1, 3) := dk_183 0 1 (dk_at dksX1_init_0 1 rfl rfl)
theorem dX1_init_4 : decode cX1_init 4 = .ok (.aload_n 0, 1) := dk_42 (dk_at dksX1_init_0 4 rfl rfl)
theorem dX1_init_5 : decode cX1_init 5 = .ok (.bipush 8, 2) := dk_16 8 (dk_at dksX1_init_0 5 rfl rfl)
theorem dX1_init_7 : decode cX1_init 7 = .ok (.newarray .int, 2) := dk_188_10 (dk_at dksX1_init_0 7 rfl rfl)
theorem dX1_init_9 : decode cX1_init 9 = .ok (.putfield 7, 3) := dk_181 0 7 (dk_at dksX1_init_0 9 rfl rfl)
theorem dX1_init_12 : decode cX1_init 12 = .ok (.aload_n 0, 1) := dk_42 (dk_at dksX1_init_0 12 rfl rfl)
theorem dX1_init_13 : decode cX1_init 13 = .ok (.sipush 253, 3) := dk_17 0 253 (dk_at dksX1_init_0 13 rfl rfl)
theorem dX1_init_16 : decode cX1_init 16 = .ok (.newarray .byte, 2) := dk_188_8 (dk_at dksX1_init_0 16 rfl rfl)
theorem dX1_init_18 : decode cX1_init 18 = .ok (.putfield 13, 3) := dk_181 0 13 (dk_at dksX1_init_0 18 rfl rfl)
theorem dX1_init_21 : decode cX1_init 21 = .ok (.aload_n 0, 1) := dk_42 (dk_at dksX1_init_0 21 rfl rfl)
theorem dX1_init_22 : decode cX1_init 22 = .ok (.iconst 4, 1) := dk_7 (dk_at dksX1_init_0 22 rfl rfl)
theorem dX1_init_23 : decode cX1_init 23 = .ok (.putfield 17, 3) := dk_181 0 17 (dk_at dksX1_init_1 0 rfl rfl)
theorem dX1_init_26 : decode cX1_init 26 = .ok (.return_, 1) := dk_177 (dk_at dksX1_init_1 3 rfl rfl)
abbrev cX1_digit : ByteArray := prog_2_method_5_code
def yX1_digit : MethodName := ⟨RX1, "digit", "(I)I"⟩
def dkwX1_digit_0 : List UInt8 := [42, 180, 0, 13, 27, 18, 28, 126, 17, 0, 253, 112, 51, 172]
abbrev dktX1_digit_0 : List UInt8 := dkwX1_digit_0 ++ []
theorem dksX1_digit_0 : cX1_digit.data.toList.drop 0 = dktX1_digit_0 := by decide +kernel
theorem dX1_digit_0 : decode cX1_digit 0 = .ok (.aload_n 0, 1) := dk_42 (dk_at dksX1_digit_0 0 rfl rfl)
theorem dX1_digit_1 : decode cX1_digit 1 = .ok (.getfield 13, 3) := dk_180 0 13 (dk_at dksX1_digit_0 1 rfl rfl)
theorem dX1_digit_4 : decode cX1_digit 4 = .ok (.iload_n 1, 1) := dk_27 (dk_at dksX1_digit_0 4 rfl rfl)
theorem dX1_digit_5 : decode cX1_digit 5 = .ok (.ldc 28, 2) := dk_18 28 (dk_at dksX1_digit_0 5 rfl rfl)
theorem dX1_digit_7 : decode cX1_digit 7 = .ok (.iand, 1) := dk_126 (dk_at dksX1_digit_0 7 rfl rfl)
theorem dX1_digit_8 : decode cX1_digit 8 = .ok (.sipush 253, 3) := dk_17 0 253 (dk_at dksX1_digit_0 8 rfl rfl)
theorem dX1_digit_11 : decode cX1_digit 11 = .ok (.irem, 1) := dk_112 (dk_at dksX1_digit_0 11 rfl rfl)
theorem dX1_digit_12 : decode cX1_digit 12 = .ok (.baload, 1) := dk_51 (dk_at dksX1_digit_0 12 rfl rfl)
theorem dX1_digit_13 : decode cX1_digit 13 = .ok (.ireturn, 1) := dk_172 (dk_at dksX1_digit_0 13 rfl rfl)
abbrev cX1_width : ByteArray := prog_2_method_6_code
def yX1_width : MethodName := ⟨RX1, "width", "()I"⟩
theorem dX1_width_0 : decode cX1_width 0 = .ok (.aload_n 0, 1) := by decide +kernel
theorem dX1_width_1 : decode cX1_width 1 = .ok (.getfield 17, 3) := by decide +kernel
theorem dX1_width_4 : decode cX1_width 4 = .ok (.ireturn, 1) := by decide +kernel
abbrev cX1_lay : ByteArray := prog_2_method_2_code
def yX1_lay : MethodName := ⟨RX1, "lay", "(IIIII)V"⟩
def dkwX1_lay_2 : List UInt8 := [154, 0, 7, 2, 167, 0, 5, 18, 21, 126, 79, 177]
abbrev dktX1_lay_2 : List UInt8 := dkwX1_lay_2 ++ []
def dkwX1_lay_1 : List UInt8 := [79, 42, 180, 0, 7, 21, 6, 5, 96, 21, 4, 79, 42, 180, 0, 7, 21, 6, 6, 96, 21, 5, 21, 6]
abbrev dktX1_lay_1 : List UInt8 := dkwX1_lay_1 ++ dktX1_lay_2
def dkwX1_lay_0 : List UInt8 := [27, 4, 126, 5, 120, 54, 6, 42, 180, 0, 7, 21, 6, 28, 79, 42, 180, 0, 7, 21, 6, 4, 96, 29]
abbrev dktX1_lay_0 : List UInt8 := dkwX1_lay_0 ++ dktX1_lay_1
theorem dksX1_lay_0 : cX1_lay.data.toList.drop 0 = dktX1_lay_0 := by decide +kernel
theorem dksX1_lay_1 : cX1_lay.data.toList.drop 24 = dktX1_lay_1 := dk_seg dksX1_lay_0 24 rfl rfl
theorem dksX1_lay_2 : cX1_lay.data.toList.drop 48 = dktX1_lay_2 := dk_seg dksX1_lay_1 24 rfl rfl
theorem dX1_lay_0 : decode cX1_lay 0 = .ok (.iload_n 1, 1) := dk_27 (dk_at dksX1_lay_0 0 rfl rfl)
theorem dX1_lay_1 : decode cX1_lay 1 = .ok (.iconst 1, 1) := dk_4 (dk_at dksX1_lay_0 1 rfl rfl)
theorem dX1_lay_2 : decode cX1_lay 2 = .ok (.iand, 1) := dk_126 (dk_at dksX1_lay_0 2 rfl rfl)
theorem dX1_lay_3 : decode cX1_lay 3 = .ok (.iconst 2, 1) := dk_5 (dk_at dksX1_lay_0 3 rfl rfl)
theorem dX1_lay_4 : decode cX1_lay 4 = .ok (.ishl, 1) := dk_120 (dk_at dksX1_lay_0 4 rfl rfl)
theorem dX1_lay_5 : decode cX1_lay 5 = .ok (.istore 6, 2) := dk_54 6 (dk_at dksX1_lay_0 5 rfl rfl)
theorem dX1_lay_7 : decode cX1_lay 7 = .ok (.aload_n 0, 1) := dk_42 (dk_at dksX1_lay_0 7 rfl rfl)
theorem dX1_lay_8 : decode cX1_lay 8 = .ok (.getfield 7, 3) := dk_180 0 7 (dk_at dksX1_lay_0 8 rfl rfl)
theorem dX1_lay_11 : decode cX1_lay 11 = .ok (.iload 6, 2) := dk_21 6 (dk_at dksX1_lay_0 11 rfl rfl)
theorem dX1_lay_13 : decode cX1_lay 13 = .ok (.iload_n 2, 1) := dk_28 (dk_at dksX1_lay_0 13 rfl rfl)
theorem dX1_lay_14 : decode cX1_lay 14 = .ok (.iastore, 1) := dk_79 (dk_at dksX1_lay_0 14 rfl rfl)
theorem dX1_lay_15 : decode cX1_lay 15 = .ok (.aload_n 0, 1) := dk_42 (dk_at dksX1_lay_0 15 rfl rfl)
theorem dX1_lay_16 : decode cX1_lay 16 = .ok (.getfield 7, 3) := dk_180 0 7 (dk_at dksX1_lay_0 16 rfl rfl)
theorem dX1_lay_19 : decode cX1_lay 19 = .ok (.iload 6, 2) := dk_21 6 (dk_at dksX1_lay_0 19 rfl rfl)
theorem dX1_lay_21 : decode cX1_lay 21 = .ok (.iconst 1, 1) := dk_4 (dk_at dksX1_lay_0 21 rfl rfl)
theorem dX1_lay_22 : decode cX1_lay 22 = .ok (.iadd, 1) := dk_96 (dk_at dksX1_lay_0 22 rfl rfl)
theorem dX1_lay_23 : decode cX1_lay 23 = .ok (.iload_n 3, 1) := dk_29 (dk_at dksX1_lay_0 23 rfl rfl)
theorem dX1_lay_24 : decode cX1_lay 24 = .ok (.iastore, 1) := dk_79 (dk_at dksX1_lay_1 0 rfl rfl)
theorem dX1_lay_25 : decode cX1_lay 25 = .ok (.aload_n 0, 1) := dk_42 (dk_at dksX1_lay_1 1 rfl rfl)
theorem dX1_lay_26 : decode cX1_lay 26 = .ok (.getfield 7, 3) := dk_180 0 7 (dk_at dksX1_lay_1 2 rfl rfl)
theorem dX1_lay_29 : decode cX1_lay 29 = .ok (.iload 6, 2) := dk_21 6 (dk_at dksX1_lay_1 5 rfl rfl)
theorem dX1_lay_31 : decode cX1_lay 31 = .ok (.iconst 2, 1) := dk_5 (dk_at dksX1_lay_1 7 rfl rfl)
theorem dX1_lay_32 : decode cX1_lay 32 = .ok (.iadd, 1) := dk_96 (dk_at dksX1_lay_1 8 rfl rfl)
theorem dX1_lay_33 : decode cX1_lay 33 = .ok (.iload 4, 2) := dk_21 4 (dk_at dksX1_lay_1 9 rfl rfl)
theorem dX1_lay_35 : decode cX1_lay 35 = .ok (.iastore, 1) := dk_79 (dk_at dksX1_lay_1 11 rfl rfl)
theorem dX1_lay_36 : decode cX1_lay 36 = .ok (.aload_n 0, 1) := dk_42 (dk_at dksX1_lay_1 12 rfl rfl)
theorem dX1_lay_37 : decode cX1_lay 37 = .ok (.getfield 7, 3) := dk_180 0 7 (dk_at dksX1_lay_1 13 rfl rfl)
theorem dX1_lay_40 : decode cX1_lay 40 = .ok (.iload 6, 2) := dk_21 6 (dk_at dksX1_lay_1 16 rfl rfl)
theorem dX1_lay_42 : decode cX1_lay 42 = .ok (.iconst 3, 1) := dk_6 (dk_at dksX1_lay_1 18 rfl rfl)
theorem dX1_lay_43 : decode cX1_lay 43 = .ok (.iadd, 1) := dk_96 (dk_at dksX1_lay_1 19 rfl rfl)
theorem dX1_lay_44 : decode cX1_lay 44 = .ok (.iload 5, 2) := dk_21 5 (dk_at dksX1_lay_1 20 rfl rfl)
theorem dX1_lay_46 : decode cX1_lay 46 = .ok (.iload 6, 2) := dk_21 6 (dk_at dksX1_lay_1 22 rfl rfl)
theorem dX1_lay_48 : decode cX1_lay 48 = .ok (.ifCond .ne 7, 3) := dk_154 0 7 (dk_at dksX1_lay_2 0 rfl rfl)
theorem dX1_lay_51 : decode cX1_lay 51 = .ok (.iconst (-1), 1) := dk_2 (dk_at dksX1_lay_2 3 rfl rfl)
theorem dX1_lay_52 : decode cX1_lay 52 = .ok (.goto 5, 3) := dk_167 0 5 (dk_at dksX1_lay_2 4 rfl rfl)
theorem dX1_lay_55 : decode cX1_lay 55 = .ok (.ldc 21, 2) := dk_18 21 (dk_at dksX1_lay_2 7 rfl rfl)
theorem dX1_lay_57 : decode cX1_lay 57 = .ok (.iand, 1) := dk_126 (dk_at dksX1_lay_2 9 rfl rfl)
theorem dX1_lay_58 : decode cX1_lay 58 = .ok (.iastore, 1) := dk_79 (dk_at dksX1_lay_2 10 rfl rfl)
theorem dX1_lay_59 : decode cX1_lay 59 = .ok (.return_, 1) := dk_177 (dk_at dksX1_lay_2 11 rfl rfl)
abbrev cX1_find : ByteArray := prog_2_method_4_code
def yX1_find : MethodName := ⟨RX1, "find", "(I)V"⟩
def dkwX1_find_1 : List UInt8 := [184, 0, 22, 42, 44, 181, 0, 13, 177]
abbrev dktX1_find_1 : List UInt8 := dkwX1_find_1 ++ []
def dkwX1_find_0 : List UInt8 := [42, 6, 27, 6, 126, 96, 181, 0, 17, 17, 0, 253, 188, 8, 77, 42, 180, 0, 7, 42, 180, 0, 17, 44]
abbrev dktX1_find_0 : List UInt8 := dkwX1_find_0 ++ dktX1_find_1
theorem dksX1_find_0 : cX1_find.data.toList.drop 0 = dktX1_find_0 := by decide +kernel
theorem dksX1_find_1 : cX1_find.data.toList.drop 24 = dktX1_find_1 := dk_seg dksX1_find_0 24 rfl rfl
theorem dX1_find_0 : decode cX1_find 0 = .ok (.aload_n 0, 1) := dk_42 (dk_at dksX1_find_0 0 rfl rfl)
theorem dX1_find_1 : decode cX1_find 1 = .ok (.iconst 3, 1) := dk_6 (dk_at dksX1_find_0 1 rfl rfl)
theorem dX1_find_2 : decode cX1_find 2 = .ok (.iload_n 1, 1) := dk_27 (dk_at dksX1_find_0 2 rfl rfl)
theorem dX1_find_3 : decode cX1_find 3 = .ok (.iconst 3, 1) := dk_6 (dk_at dksX1_find_0 3 rfl rfl)
theorem dX1_find_4 : decode cX1_find 4 = .ok (.iand, 1) := dk_126 (dk_at dksX1_find_0 4 rfl rfl)
theorem dX1_find_5 : decode cX1_find 5 = .ok (.iadd, 1) := dk_96 (dk_at dksX1_find_0 5 rfl rfl)
theorem dX1_find_6 : decode cX1_find 6 = .ok (.putfield 17, 3) := dk_181 0 17 (dk_at dksX1_find_0 6 rfl rfl)
theorem dX1_find_9 : decode cX1_find 9 = .ok (.sipush 253, 3) := dk_17 0 253 (dk_at dksX1_find_0 9 rfl rfl)
theorem dX1_find_12 : decode cX1_find 12 = .ok (.newarray .byte, 2) := dk_188_8 (dk_at dksX1_find_0 12 rfl rfl)
theorem dX1_find_14 : decode cX1_find 14 = .ok (.astore_n 2, 1) := dk_77 (dk_at dksX1_find_0 14 rfl rfl)
theorem dX1_find_15 : decode cX1_find 15 = .ok (.aload_n 0, 1) := dk_42 (dk_at dksX1_find_0 15 rfl rfl)
theorem dX1_find_16 : decode cX1_find 16 = .ok (.getfield 7, 3) := dk_180 0 7 (dk_at dksX1_find_0 16 rfl rfl)
theorem dX1_find_19 : decode cX1_find 19 = .ok (.aload_n 0, 1) := dk_42 (dk_at dksX1_find_0 19 rfl rfl)
theorem dX1_find_20 : decode cX1_find 20 = .ok (.getfield 17, 3) := dk_180 0 17 (dk_at dksX1_find_0 20 rfl rfl)
theorem dX1_find_23 : decode cX1_find 23 = .ok (.aload_n 2, 1) := dk_44 (dk_at dksX1_find_0 23 rfl rfl)
theorem dX1_find_24 : decode cX1_find 24 = .ok (.invokestatic 22, 3) := dk_184 0 22 (dk_at dksX1_find_1 0 rfl rfl)
theorem dX1_find_27 : decode cX1_find 27 = .ok (.aload_n 0, 1) := dk_42 (dk_at dksX1_find_1 3 rfl rfl)
theorem dX1_find_28 : decode cX1_find 28 = .ok (.aload_n 2, 1) := dk_44 (dk_at dksX1_find_1 4 rfl rfl)
theorem dX1_find_29 : decode cX1_find 29 = .ok (.putfield 13, 3) := dk_181 0 13 (dk_at dksX1_find_1 5 rfl rfl)
theorem dX1_find_32 : decode cX1_find 32 = .ok (.return_, 1) := dk_177 (dk_at dksX1_find_1 8 rfl rfl)
abbrev cX1_few : ByteArray := prog_2_method_3_code
def yX1_few : MethodName := ⟨RX1, "few", "(II)V"⟩
def dkwX1_few_1 : List UInt8 := [28, 79, 177]
abbrev dktX1_few_1 : List UInt8 := dkwX1_few_1 ++ []
def dkwX1_few_0 : List UInt8 := [42, 180, 0, 7, 27, 16, 7, 126, 27, 16, 7, 126, 16, 7, 160, 0, 10, 28, 18, 21, 126, 167, 0, 4]
abbrev dktX1_few_0 : List UInt8 := dkwX1_few_0 ++ dktX1_few_1
theorem dksX1_few_0 : cX1_few.data.toList.drop 0 = dktX1_few_0 := by decide +kernel
theorem dksX1_few_1 : cX1_few.data.toList.drop 24 = dktX1_few_1 := dk_seg dksX1_few_0 24 rfl rfl
theorem dX1_few_0 : decode cX1_few 0 = .ok (.aload_n 0, 1) := dk_42 (dk_at dksX1_few_0 0 rfl rfl)
theorem dX1_few_1 : decode cX1_few 1 = .ok (.getfield 7, 3) := dk_180 0 7 (dk_at dksX1_few_0 1 rfl rfl)
theorem dX1_few_4 : decode cX1_few 4 = .ok (.iload_n 1, 1) := dk_27 (dk_at dksX1_few_0 4 rfl rfl)
theorem dX1_few_5 : decode cX1_few 5 = .ok (.bipush 7, 2) := dk_16 7 (dk_at dksX1_few_0 5 rfl rfl)
theorem dX1_few_7 : decode cX1_few 7 = .ok (.iand, 1) := dk_126 (dk_at dksX1_few_0 7 rfl rfl)
theorem dX1_few_8 : decode cX1_few 8 = .ok (.iload_n 1, 1) := dk_27 (dk_at dksX1_few_0 8 rfl rfl)
theorem dX1_few_9 : decode cX1_few 9 = .ok (.bipush 7, 2) := dk_16 7 (dk_at dksX1_few_0 9 rfl rfl)
theorem dX1_few_11 : decode cX1_few 11 = .ok (.iand, 1) := dk_126 (dk_at dksX1_few_0 11 rfl rfl)
theorem dX1_few_12 : decode cX1_few 12 = .ok (.bipush 7, 2) := dk_16 7 (dk_at dksX1_few_0 12 rfl rfl)
theorem dX1_few_14 : decode cX1_few 14 = .ok (.if_icmp .ne 10, 3) := dk_160 0 10 (dk_at dksX1_few_0 14 rfl rfl)
theorem dX1_few_17 : decode cX1_few 17 = .ok (.iload_n 2, 1) := dk_28 (dk_at dksX1_few_0 17 rfl rfl)
theorem dX1_few_18 : decode cX1_few 18 = .ok (.ldc 21, 2) := dk_18 21 (dk_at dksX1_few_0 18 rfl rfl)
theorem dX1_few_20 : decode cX1_few 20 = .ok (.iand, 1) := dk_126 (dk_at dksX1_few_0 20 rfl rfl)
theorem dX1_few_21 : decode cX1_few 21 = .ok (.goto 4, 3) := dk_167 0 4 (dk_at dksX1_few_0 21 rfl rfl)
theorem dX1_few_24 : decode cX1_few 24 = .ok (.iload_n 2, 1) := dk_28 (dk_at dksX1_few_1 0 rfl rfl)
theorem dX1_few_25 : decode cX1_few 25 = .ok (.iastore, 1) := dk_79 (dk_at dksX1_few_1 1 rfl rfl)
theorem dX1_few_26 : decode cX1_few 26 = .ok (.return_, 1) := dk_177 (dk_at dksX1_few_1 2 rfl rfl)
theorem q1 : (Jvm.Cond.initialized "WnafDesk") ∈ lw_all := lw_g (lw_at lw_m0 1 rfl) rfl
theorem q4 : (Jvm.Cond.instantiable "WnafDesk" (3 : Nat)) ∈ lw_all := lw_g (lw_at lw_m0 4 rfl) rfl
theorem q6 : (Jvm.Cond.instanceMethod ({ cls := "WnafDesk", name := "<init>", desc := "()V" } : Jvm.MethodName)) ∈ lw_all := lw_g (lw_at lw_m0 6 rfl) rfl
theorem q7 : (Jvm.Cond.code ({ cls := "WnafDesk", name := "<init>", desc := "()V" } : Jvm.MethodName) prog_2_method_1_code (1 : Nat) (Option.none : Option Jvm.ClassFile.FieldType)) ∈ lw_all := lw_g (lw_at lw_m0 7 rfl) rfl
theorem q8 : (Jvm.Cond.methodLink "WnafDesk" (1 : Nat) ({ cls := "java/lang/Object", name := "<init>", desc := "()V" } : Jvm.MethodName)) ∈ lw_all := lw_g (lw_at lw_m0 8 rfl) rfl
theorem q11 : (Jvm.Cond.fieldLink "WnafDesk" (7 : Nat) "WnafDesk" "n" "[I") ∈ lw_all := lw_g (lw_at lw_m0 11 rfl) rfl
theorem q12 : (Jvm.Cond.fieldLink "WnafDesk" (13 : Nat) "WnafDesk" "digits" "[B") ∈ lw_all := lw_g (lw_at lw_m0 12 rfl) rfl
theorem q13 : (Jvm.Cond.fieldLink "WnafDesk" (17 : Nat) "WnafDesk" "width" "I") ∈ lw_all := lw_g (lw_at lw_m0 13 rfl) rfl
theorem q14 : (Jvm.Cond.laysFinal "WnafDesk" "WnafDesk" "n" "[I") ∈ lw_all := lw_g (lw_at lw_m0 14 rfl) rfl
theorem q15 : (Jvm.Cond.soleField "WnafDesk" "n") ∈ lw_all := lw_g (lw_at lw_m0 15 rfl) rfl
theorem q16 : (Jvm.Cond.lays "WnafDesk" "WnafDesk" "digits" "[B") ∈ lw_all := lw_g (lw_at lw_m0 16 rfl) rfl
theorem q17 : (Jvm.Cond.soleField "WnafDesk" "digits") ∈ lw_all := lw_g (lw_at lw_m0 17 rfl) rfl
theorem q18 : (Jvm.Cond.lays "WnafDesk" "WnafDesk" "width" "I") ∈ lw_all := lw_g (lw_at lw_m0 18 rfl) rfl
theorem q19 : (Jvm.Cond.soleField "WnafDesk" "width") ∈ lw_all := lw_g (lw_at lw_m0 19 rfl) rfl
theorem q20 : (Jvm.Cond.superclass "WnafDesk" "java/lang/Object") ∈ lw_all := lw_g (lw_at lw_m0 20 rfl) rfl
theorem q24 : (Jvm.Cond.instanceMethod ({ cls := "WnafDesk", name := "digit", desc := "(I)I" } : Jvm.MethodName)) ∈ lw_all := lw_g (lw_at lw_m0 24 rfl) rfl
theorem q25 : (Jvm.Cond.selects "WnafDesk" ({ cls := "WnafDesk", name := "digit", desc := "(I)I" } : Jvm.MethodName) ({ cls := "WnafDesk", name := "digit", desc := "(I)I" } : Jvm.MethodName)) ∈ lw_all := lw_g (lw_at lw_m0 25 rfl) rfl
theorem q26 : (Jvm.Cond.code ({ cls := "WnafDesk", name := "digit", desc := "(I)I" } : Jvm.MethodName) prog_2_method_5_code (2 : Nat) (Option.some Jvm.ClassFile.FieldType.int)) ∈ lw_all := lw_g (lw_at lw_m0 26 rfl) rfl
theorem q27 : (Jvm.Cond.constant "WnafDesk" (28 : Nat) (2147483647 : Int32)) ∈ lw_all := lw_g (lw_at lw_m0 27 rfl) rfl
theorem q29 : (Jvm.Cond.instanceMethod ({ cls := "WnafDesk", name := "width", desc := "()I" } : Jvm.MethodName)) ∈ lw_all := lw_g (lw_at lw_m0 29 rfl) rfl
theorem q30 : (Jvm.Cond.selects "WnafDesk" ({ cls := "WnafDesk", name := "width", desc := "()I" } : Jvm.MethodName) ({ cls := "WnafDesk", name := "width", desc := "()I" } : Jvm.MethodName)) ∈ lw_all := lw_g (lw_at lw_m0 30 rfl) rfl
theorem q31 : (Jvm.Cond.code ({ cls := "WnafDesk", name := "width", desc := "()I" } : Jvm.MethodName) prog_2_method_6_code (1 : Nat) (Option.some Jvm.ClassFile.FieldType.int)) ∈ lw_all := lw_g (lw_at lw_m0 31 rfl) rfl
theorem q53 : (Jvm.Cond.instanceMethod ({ cls := "WnafDesk", name := "lay", desc := "(IIIII)V" } : Jvm.MethodName)) ∈ lw_all := lw_g (lw_at lw_m0 53 rfl) rfl
theorem q54 : (Jvm.Cond.selects "WnafDesk" ({ cls := "WnafDesk", name := "lay", desc := "(IIIII)V" } : Jvm.MethodName) ({ cls := "WnafDesk", name := "lay", desc := "(IIIII)V" } : Jvm.MethodName)) ∈ lw_all := lw_g (lw_at lw_m0 54 rfl) rfl
theorem q55 : (Jvm.Cond.code ({ cls := "WnafDesk", name := "lay", desc := "(IIIII)V" } : Jvm.MethodName) prog_2_method_2_code (7 : Nat) (Option.none : Option Jvm.ClassFile.FieldType)) ∈ lw_all := lw_g (lw_at lw_m0 55 rfl) rfl
theorem q56 : (Jvm.Cond.constant "WnafDesk" (21 : Nat) (268435455 : Int32)) ∈ lw_all := lw_g (lw_at lw_m0 56 rfl) rfl
theorem q58 : (Jvm.Cond.instanceMethod ({ cls := "WnafDesk", name := "find", desc := "(I)V" } : Jvm.MethodName)) ∈ lw_all := lw_g (lw_at lw_m0 58 rfl) rfl
theorem q59 : (Jvm.Cond.selects "WnafDesk" ({ cls := "WnafDesk", name := "find", desc := "(I)V" } : Jvm.MethodName) ({ cls := "WnafDesk", name := "find", desc := "(I)V" } : Jvm.MethodName)) ∈ lw_all := lw_g (lw_at lw_m0 59 rfl) rfl
theorem q60 : (Jvm.Cond.code ({ cls := "WnafDesk", name := "find", desc := "(I)V" } : Jvm.MethodName) prog_2_method_4_code (3 : Nat) (Option.none : Option Jvm.ClassFile.FieldType)) ∈ lw_all := lw_g (lw_at lw_m0 60 rfl) rfl
theorem q61 : (Jvm.Cond.methodLink "WnafDesk" (22 : Nat) ({ cls := "Wnaf", name := "getSignedVar", desc := "([II[B)V" } : Jvm.MethodName)) ∈ lw_all := lw_g (lw_at lw_m0 61 rfl) rfl
theorem q86 : (Jvm.Cond.instanceMethod ({ cls := "WnafDesk", name := "few", desc := "(II)V" } : Jvm.MethodName)) ∈ lw_all := lw_g (lw_at lw_m0 86 rfl) rfl
theorem q87 : (Jvm.Cond.selects "WnafDesk" ({ cls := "WnafDesk", name := "few", desc := "(II)V" } : Jvm.MethodName) ({ cls := "WnafDesk", name := "few", desc := "(II)V" } : Jvm.MethodName)) ∈ lw_all := lw_g (lw_at lw_m0 87 rfl) rfl
theorem q88 : (Jvm.Cond.code ({ cls := "WnafDesk", name := "few", desc := "(II)V" } : Jvm.MethodName) prog_2_method_3_code (3 : Nat) (Option.none : Option Jvm.ClassFile.FieldType)) ∈ lw_all := lw_g (lw_at lw_m0 88 rfl) rfl
theorem in_X1 : ∀ w ∈ wsX10, w ∈ lw_all := lw_in wsX10 [14, 16, 18] (by decide +kernel) (by decide +kernel)
/-! WnafDeskLaw -/
set_option maxRecDepth 100000
def RX0 : String := "WnafDeskLaw"
abbrev cX0_cell : ByteArray := method_2_code
def yX0_cell : MethodName := ⟨RX0, "cell", "([II)I"⟩
def dkwX0_cell_0 : List UInt8 := [27, 42, 190, 162, 0, 15, 27, 16, 24, 162, 0, 9, 42, 27, 46, 167, 0, 4, 3, 172]
abbrev dktX0_cell_0 : List UInt8 := dkwX0_cell_0 ++ []
theorem dksX0_cell_0 : cX0_cell.data.toList.drop 0 = dktX0_cell_0 := by decide +kernel
theorem dX0_cell_0 : decode cX0_cell 0 = .ok (.iload_n 1, 1) := dk_27 (dk_at dksX0_cell_0 0 rfl rfl)
theorem dX0_cell_1 : decode cX0_cell 1 = .ok (.aload_n 0, 1) := dk_42 (dk_at dksX0_cell_0 1 rfl rfl)
theorem dX0_cell_2 : decode cX0_cell 2 = .ok (.arraylength, 1) := dk_190 (dk_at dksX0_cell_0 2 rfl rfl)
theorem dX0_cell_3 : decode cX0_cell 3 = .ok (.if_icmp .ge 15, 3) := dk_162 0 15 (dk_at dksX0_cell_0 3 rfl rfl)
theorem dX0_cell_6 : decode cX0_cell 6 = .ok (.iload_n 1, 1) := dk_27 (dk_at dksX0_cell_0 6 rfl rfl)
theorem dX0_cell_7 : decode cX0_cell 7 = .ok (.bipush 24, 2) := dk_16 24 (dk_at dksX0_cell_0 7 rfl rfl)
theorem dX0_cell_9 : decode cX0_cell 9 = .ok (.if_icmp .ge 9, 3) := dk_162 0 9 (dk_at dksX0_cell_0 9 rfl rfl)
theorem dX0_cell_12 : decode cX0_cell 12 = .ok (.aload_n 0, 1) := dk_42 (dk_at dksX0_cell_0 12 rfl rfl)
theorem dX0_cell_13 : decode cX0_cell 13 = .ok (.iload_n 1, 1) := dk_27 (dk_at dksX0_cell_0 13 rfl rfl)
theorem dX0_cell_14 : decode cX0_cell 14 = .ok (.iaload, 1) := dk_46 (dk_at dksX0_cell_0 14 rfl rfl)
theorem dX0_cell_15 : decode cX0_cell 15 = .ok (.goto 4, 3) := dk_167 0 4 (dk_at dksX0_cell_0 15 rfl rfl)
theorem dX0_cell_18 : decode cX0_cell 18 = .ok (.iconst 0, 1) := dk_3 (dk_at dksX0_cell_0 18 rfl rfl)
theorem dX0_cell_19 : decode cX0_cell 19 = .ok (.ireturn, 1) := dk_172 (dk_at dksX0_cell_0 19 rfl rfl)
abbrev cX0_number : ByteArray := method_3_code
def yX0_number : MethodName := ⟨RX0, "number", "([II)[I"⟩
def dkwX0_number_6 : List UInt8 := [44, 16, 7, 92, 46, 18, 13, 126, 79, 44, 176]
abbrev dktX0_number_6 : List UInt8 := dkwX0_number_6 ++ []
def dkwX0_number_5 : List UInt8 := [167, 0, 18, 44, 21, 5, 21, 5, 154, 0, 8, 21, 6, 167, 0, 4, 3, 79, 132, 5, 1, 167, 255, 142]
abbrev dktX0_number_5 : List UInt8 := dkwX0_number_5 ++ dktX0_number_6
def dkwX0_number_4 : List UInt8 := [3, 79, 167, 0, 38, 44, 21, 5, 21, 5, 21, 4, 160, 0, 8, 21, 6, 167, 0, 4, 2, 79]
abbrev dktX0_number_4 : List UInt8 := dkwX0_number_4 ++ dktX0_number_5
def dkwX0_number_3 : List UInt8 := [44, 21, 5, 21, 6, 79, 167, 0, 58, 44, 21, 5, 21, 5, 21, 4, 160, 0, 8, 21, 6, 167, 0, 4]
abbrev dktX0_number_3 : List UInt8 := dkwX0_number_3 ++ dktX0_number_4
def dkwX0_number_2 : List UInt8 := [170, 0, 0, 0, 0, 0, 76, 0, 0, 0, 0, 0, 0, 0, 2, 0, 0, 0, 27, 0, 0, 0, 36, 0, 0, 0, 56]
abbrev dktX0_number_2 : List UInt8 := dkwX0_number_2 ++ dktX0_number_3
def dkwX0_number_1 : List UInt8 := [54, 5, 21, 5, 16, 8, 162, 0, 113, 42, 27, 21, 5, 96, 184, 0, 9, 54, 6, 29, 6, 126]
abbrev dktX0_number_1 : List UInt8 := dkwX0_number_1 ++ dktX0_number_2
def dkwX0_number_0 : List UInt8 := [16, 8, 188, 10, 77, 42, 27, 16, 8, 96, 184, 0, 9, 62, 29, 5, 122, 16, 7, 126, 54, 4, 3]
abbrev dktX0_number_0 : List UInt8 := dkwX0_number_0 ++ dktX0_number_1
theorem dksX0_number_0 : cX0_number.data.toList.drop 0 = dktX0_number_0 := by decide +kernel
theorem dksX0_number_1 : cX0_number.data.toList.drop 23 = dktX0_number_1 := dk_seg dksX0_number_0 23 rfl rfl
theorem dksX0_number_2 : cX0_number.data.toList.drop 45 = dktX0_number_2 := dk_seg dksX0_number_1 22 rfl rfl
theorem dksX0_number_3 : cX0_number.data.toList.drop 72 = dktX0_number_3 := dk_seg dksX0_number_2 27 rfl rfl
theorem dksX0_number_4 : cX0_number.data.toList.drop 96 = dktX0_number_4 := dk_seg dksX0_number_3 24 rfl rfl
theorem dksX0_number_5 : cX0_number.data.toList.drop 118 = dktX0_number_5 := dk_seg dksX0_number_4 22 rfl rfl
theorem dksX0_number_6 : cX0_number.data.toList.drop 142 = dktX0_number_6 := dk_seg dksX0_number_5 24 rfl rfl
theorem dX0_number_0 : decode cX0_number 0 = .ok (.bipush 8, 2) := dk_16 8 (dk_at dksX0_number_0 0 rfl rfl)
theorem dX0_number_2 : decode cX0_number 2 = .ok (.newarray .int, 2) := dk_188_10 (dk_at dksX0_number_0 2 rfl rfl)
theorem dX0_number_4 : decode cX0_number 4 = .ok (.astore_n 2, 1) := dk_77 (dk_at dksX0_number_0 4 rfl rfl)
theorem dX0_number_5 : decode cX0_number 5 = .ok (.aload_n 0, 1) := dk_42 (dk_at dksX0_number_0 5 rfl rfl)
theorem dX0_number_6 : decode cX0_number 6 = .ok (.iload_n 1, 1) := dk_27 (dk_at dksX0_number_0 6 rfl rfl)
theorem dX0_number_7 : decode cX0_number 7 = .ok (.bipush 8, 2) := dk_16 8 (dk_at dksX0_number_0 7 rfl rfl)
theorem dX0_number_9 : decode cX0_number 9 = .ok (.iadd, 1) := dk_96 (dk_at dksX0_number_0 9 rfl rfl)
theorem dX0_number_10 : decode cX0_number 10 = .ok (.invokestatic 9, 3) := dk_184 0 9 (dk_at dksX0_number_0 10 rfl rfl)
theorem dX0_number_13 : decode cX0_number 13 = .ok (.istore_n 3, 1) := dk_62 (dk_at dksX0_number_0 13 rfl rfl)
theorem dX0_number_14 : decode cX0_number 14 = .ok (.iload_n 3, 1) := dk_29 (dk_at dksX0_number_0 14 rfl rfl)
theorem dX0_number_15 : decode cX0_number 15 = .ok (.iconst 2, 1) := dk_5 (dk_at dksX0_number_0 15 rfl rfl)
theorem dX0_number_16 : decode cX0_number 16 = .ok (.ishr, 1) := dk_122 (dk_at dksX0_number_0 16 rfl rfl)
theorem dX0_number_17 : decode cX0_number 17 = .ok (.bipush 7, 2) := dk_16 7 (dk_at dksX0_number_0 17 rfl rfl)
theorem dX0_number_19 : decode cX0_number 19 = .ok (.iand, 1) := dk_126 (dk_at dksX0_number_0 19 rfl rfl)
theorem dX0_number_20 : decode cX0_number 20 = .ok (.istore 4, 2) := dk_54 4 (dk_at dksX0_number_0 20 rfl rfl)
theorem dX0_number_22 : decode cX0_number 22 = .ok (.iconst 0, 1) := dk_3 (dk_at dksX0_number_0 22 rfl rfl)
theorem dX0_number_23 : decode cX0_number 23 = .ok (.istore 5, 2) := dk_54 5 (dk_at dksX0_number_1 0 rfl rfl)
theorem dX0_number_25 : decode cX0_number 25 = .ok (.iload 5, 2) := dk_21 5 (dk_at dksX0_number_1 2 rfl rfl)
theorem dX0_number_27 : decode cX0_number 27 = .ok (.bipush 8, 2) := dk_16 8 (dk_at dksX0_number_1 4 rfl rfl)
theorem dX0_number_29 : decode cX0_number 29 = .ok (.if_icmp .ge 113, 3) := dk_162 0 113 (dk_at dksX0_number_1 6 rfl rfl)
theorem dX0_number_32 : decode cX0_number 32 = .ok (.aload_n 0, 1) := dk_42 (dk_at dksX0_number_1 9 rfl rfl)
theorem dX0_number_33 : decode cX0_number 33 = .ok (.iload_n 1, 1) := dk_27 (dk_at dksX0_number_1 10 rfl rfl)
theorem dX0_number_34 : decode cX0_number 34 = .ok (.iload 5, 2) := dk_21 5 (dk_at dksX0_number_1 11 rfl rfl)
theorem dX0_number_36 : decode cX0_number 36 = .ok (.iadd, 1) := dk_96 (dk_at dksX0_number_1 13 rfl rfl)
theorem dX0_number_37 : decode cX0_number 37 = .ok (.invokestatic 9, 3) := dk_184 0 9 (dk_at dksX0_number_1 14 rfl rfl)
theorem dX0_number_40 : decode cX0_number 40 = .ok (.istore 6, 2) := dk_54 6 (dk_at dksX0_number_1 17 rfl rfl)
theorem dX0_number_42 : decode cX0_number 42 = .ok (.iload_n 3, 1) := dk_29 (dk_at dksX0_number_1 19 rfl rfl)
theorem dX0_number_43 : decode cX0_number 43 = .ok (.iconst 3, 1) := dk_6 (dk_at dksX0_number_1 20 rfl rfl)
theorem dX0_number_44 : decode cX0_number 44 = .ok (.iand, 1) := dk_126 (dk_at dksX0_number_1 21 rfl rfl)
theorem dX0_number_45 : decode cX0_number 45 = .ok (.tableswitch 76 0 2 #[27, 36, 56], 27) := by decide +kernel
theorem dX0_number_72 : decode cX0_number 72 = .ok (.aload_n 2, 1) := dk_44 (dk_at dksX0_number_3 0 rfl rfl)
theorem dX0_number_73 : decode cX0_number 73 = .ok (.iload 5, 2) := dk_21 5 (dk_at dksX0_number_3 1 rfl rfl)
theorem dX0_number_75 : decode cX0_number 75 = .ok (.iload 6, 2) := dk_21 6 (dk_at dksX0_number_3 3 rfl rfl)
theorem dX0_number_77 : decode cX0_number 77 = .ok (.iastore, 1) := dk_79 (dk_at dksX0_number_3 5 rfl rfl)
theorem dX0_number_78 : decode cX0_number 78 = .ok (.goto 58, 3) := dk_167 0 58 (dk_at dksX0_number_3 6 rfl rfl)
theorem dX0_number_81 : decode cX0_number 81 = .ok (.aload_n 2, 1) := dk_44 (dk_at dksX0_number_3 9 rfl rfl)
theorem dX0_number_82 : decode cX0_number 82 = .ok (.iload 5, 2) := dk_21 5 (dk_at dksX0_number_3 10 rfl rfl)
theorem dX0_number_84 : decode cX0_number 84 = .ok (.iload 5, 2) := dk_21 5 (dk_at dksX0_number_3 12 rfl rfl)
theorem dX0_number_86 : decode cX0_number 86 = .ok (.iload 4, 2) := dk_21 4 (dk_at dksX0_number_3 14 rfl rfl)
theorem dX0_number_88 : decode cX0_number 88 = .ok (.if_icmp .ne 8, 3) := dk_160 0 8 (dk_at dksX0_number_3 16 rfl rfl)
theorem dX0_number_91 : decode cX0_number 91 = .ok (.iload 6, 2) := dk_21 6 (dk_at dksX0_number_3 19 rfl rfl)
theorem dX0_number_93 : decode cX0_number 93 = .ok (.goto 4, 3) := dk_167 0 4 (dk_at dksX0_number_3 21 rfl rfl)
theorem dX0_number_96 : decode cX0_number 96 = .ok (.iconst 0, 1) := dk_3 (dk_at dksX0_number_4 0 rfl rfl)
theorem dX0_number_97 : decode cX0_number 97 = .ok (.iastore, 1) := dk_79 (dk_at dksX0_number_4 1 rfl rfl)
theorem dX0_number_98 : decode cX0_number 98 = .ok (.goto 38, 3) := dk_167 0 38 (dk_at dksX0_number_4 2 rfl rfl)
theorem dX0_number_101 : decode cX0_number 101 = .ok (.aload_n 2, 1) := dk_44 (dk_at dksX0_number_4 5 rfl rfl)
theorem dX0_number_102 : decode cX0_number 102 = .ok (.iload 5, 2) := dk_21 5 (dk_at dksX0_number_4 6 rfl rfl)
theorem dX0_number_104 : decode cX0_number 104 = .ok (.iload 5, 2) := dk_21 5 (dk_at dksX0_number_4 8 rfl rfl)
theorem dX0_number_106 : decode cX0_number 106 = .ok (.iload 4, 2) := dk_21 4 (dk_at dksX0_number_4 10 rfl rfl)
theorem dX0_number_108 : decode cX0_number 108 = .ok (.if_icmp .ne 8, 3) := dk_160 0 8 (dk_at dksX0_number_4 12 rfl rfl)
theorem dX0_number_111 : decode cX0_number 111 = .ok (.iload 6, 2) := dk_21 6 (dk_at dksX0_number_4 15 rfl rfl)
theorem dX0_number_113 : decode cX0_number 113 = .ok (.goto 4, 3) := dk_167 0 4 (dk_at dksX0_number_4 17 rfl rfl)
theorem dX0_number_116 : decode cX0_number 116 = .ok (.iconst (-1), 1) := dk_2 (dk_at dksX0_number_4 20 rfl rfl)
theorem dX0_number_117 : decode cX0_number 117 = .ok (.iastore, 1) := dk_79 (dk_at dksX0_number_4 21 rfl rfl)
theorem dX0_number_118 : decode cX0_number 118 = .ok (.goto 18, 3) := dk_167 0 18 (dk_at dksX0_number_5 0 rfl rfl)
theorem dX0_number_121 : decode cX0_number 121 = .ok (.aload_n 2, 1) := dk_44 (dk_at dksX0_number_5 3 rfl rfl)
theorem dX0_number_122 : decode cX0_number 122 = .ok (.iload 5, 2) := dk_21 5 (dk_at dksX0_number_5 4 rfl rfl)
theorem dX0_number_124 : decode cX0_number 124 = .ok (.iload 5, 2) := dk_21 5 (dk_at dksX0_number_5 6 rfl rfl)
theorem dX0_number_126 : decode cX0_number 126 = .ok (.ifCond .ne 8, 3) := dk_154 0 8 (dk_at dksX0_number_5 8 rfl rfl)
theorem dX0_number_129 : decode cX0_number 129 = .ok (.iload 6, 2) := dk_21 6 (dk_at dksX0_number_5 11 rfl rfl)
theorem dX0_number_131 : decode cX0_number 131 = .ok (.goto 4, 3) := dk_167 0 4 (dk_at dksX0_number_5 13 rfl rfl)
theorem dX0_number_134 : decode cX0_number 134 = .ok (.iconst 0, 1) := dk_3 (dk_at dksX0_number_5 16 rfl rfl)
theorem dX0_number_135 : decode cX0_number 135 = .ok (.iastore, 1) := dk_79 (dk_at dksX0_number_5 17 rfl rfl)
theorem dX0_number_136 : decode cX0_number 136 = .ok (.iinc 5 1, 3) := dk_132 5 1 (dk_at dksX0_number_5 18 rfl rfl)
theorem dX0_number_139 : decode cX0_number 139 = .ok (.goto (-114), 3) := dk_167 255 142 (dk_at dksX0_number_5 21 rfl rfl)
theorem dX0_number_142 : decode cX0_number 142 = .ok (.aload_n 2, 1) := dk_44 (dk_at dksX0_number_6 0 rfl rfl)
theorem dX0_number_143 : decode cX0_number 143 = .ok (.bipush 7, 2) := dk_16 7 (dk_at dksX0_number_6 1 rfl rfl)
theorem dX0_number_145 : decode cX0_number 145 = .ok (.dup2, 1) := dk_92 (dk_at dksX0_number_6 3 rfl rfl)
theorem dX0_number_146 : decode cX0_number 146 = .ok (.iaload, 1) := dk_46 (dk_at dksX0_number_6 4 rfl rfl)
theorem dX0_number_147 : decode cX0_number 147 = .ok (.ldc 13, 2) := dk_18 13 (dk_at dksX0_number_6 5 rfl rfl)
theorem dX0_number_149 : decode cX0_number 149 = .ok (.iand, 1) := dk_126 (dk_at dksX0_number_6 7 rfl rfl)
theorem dX0_number_150 : decode cX0_number 150 = .ok (.iastore, 1) := dk_79 (dk_at dksX0_number_6 8 rfl rfl)
theorem dX0_number_151 : decode cX0_number 151 = .ok (.aload_n 2, 1) := dk_44 (dk_at dksX0_number_6 9 rfl rfl)
theorem dX0_number_152 : decode cX0_number 152 = .ok (.areturn, 1) := dk_176 (dk_at dksX0_number_6 10 rfl rfl)
abbrev cX0_sum : ByteArray := method_4_code
def yX0_sum : MethodName := ⟨RX0, "sum", "([I[I)[I"⟩
def dkwX0_sum_2 : List UInt8 := [16, 32, 123, 66, 132, 5, 1, 167, 255, 213, 44, 176]
abbrev dktX0_sum_2 : List UInt8 := dkwX0_sum_2 ++ []
def dkwX0_sum_1 : List UInt8 := [20, 0, 14, 127, 43, 21, 5, 46, 133, 20, 0, 14, 127, 97, 97, 66, 44, 21, 5, 33, 136, 79, 33]
abbrev dktX0_sum_1 : List UInt8 := dkwX0_sum_1 ++ dktX0_sum_2
def dkwX0_sum_0 : List UInt8 := [16, 8, 188, 10, 77, 9, 66, 3, 54, 5, 21, 5, 16, 8, 162, 0, 42, 33, 42, 21, 5, 46, 133]
abbrev dktX0_sum_0 : List UInt8 := dkwX0_sum_0 ++ dktX0_sum_1
theorem dksX0_sum_0 : cX0_sum.data.toList.drop 0 = dktX0_sum_0 := by decide +kernel
theorem dksX0_sum_1 : cX0_sum.data.toList.drop 23 = dktX0_sum_1 := dk_seg dksX0_sum_0 23 rfl rfl
theorem dksX0_sum_2 : cX0_sum.data.toList.drop 46 = dktX0_sum_2 := dk_seg dksX0_sum_1 23 rfl rfl
theorem dX0_sum_0 : decode cX0_sum 0 = .ok (.bipush 8, 2) := dk_16 8 (dk_at dksX0_sum_0 0 rfl rfl)
theorem dX0_sum_2 : decode cX0_sum 2 = .ok (.newarray .int, 2) := dk_188_10 (dk_at dksX0_sum_0 2 rfl rfl)
theorem dX0_sum_4 : decode cX0_sum 4 = .ok (.astore_n 2, 1) := dk_77 (dk_at dksX0_sum_0 4 rfl rfl)
theorem dX0_sum_5 : decode cX0_sum 5 = .ok (.lconst 0, 1) := dk_9 (dk_at dksX0_sum_0 5 rfl rfl)
theorem dX0_sum_6 : decode cX0_sum 6 = .ok (.lstore_n 3, 1) := dk_66 (dk_at dksX0_sum_0 6 rfl rfl)
theorem dX0_sum_7 : decode cX0_sum 7 = .ok (.iconst 0, 1) := dk_3 (dk_at dksX0_sum_0 7 rfl rfl)
theorem dX0_sum_8 : decode cX0_sum 8 = .ok (.istore 5, 2) := dk_54 5 (dk_at dksX0_sum_0 8 rfl rfl)
theorem dX0_sum_10 : decode cX0_sum 10 = .ok (.iload 5, 2) := dk_21 5 (dk_at dksX0_sum_0 10 rfl rfl)
theorem dX0_sum_12 : decode cX0_sum 12 = .ok (.bipush 8, 2) := dk_16 8 (dk_at dksX0_sum_0 12 rfl rfl)
theorem dX0_sum_14 : decode cX0_sum 14 = .ok (.if_icmp .ge 42, 3) := dk_162 0 42 (dk_at dksX0_sum_0 14 rfl rfl)
theorem dX0_sum_17 : decode cX0_sum 17 = .ok (.lload_n 3, 1) := dk_33 (dk_at dksX0_sum_0 17 rfl rfl)
theorem dX0_sum_18 : decode cX0_sum 18 = .ok (.aload_n 0, 1) := dk_42 (dk_at dksX0_sum_0 18 rfl rfl)
theorem dX0_sum_19 : decode cX0_sum 19 = .ok (.iload 5, 2) := dk_21 5 (dk_at dksX0_sum_0 19 rfl rfl)
theorem dX0_sum_21 : decode cX0_sum 21 = .ok (.iaload, 1) := dk_46 (dk_at dksX0_sum_0 21 rfl rfl)
theorem dX0_sum_22 : decode cX0_sum 22 = .ok (.i2l, 1) := dk_133 (dk_at dksX0_sum_0 22 rfl rfl)
theorem dX0_sum_23 : decode cX0_sum 23 = .ok (.ldc2_w 14, 3) := dk_20 0 14 (dk_at dksX0_sum_1 0 rfl rfl)
theorem dX0_sum_26 : decode cX0_sum 26 = .ok (.land, 1) := dk_127 (dk_at dksX0_sum_1 3 rfl rfl)
theorem dX0_sum_27 : decode cX0_sum 27 = .ok (.aload_n 1, 1) := dk_43 (dk_at dksX0_sum_1 4 rfl rfl)
theorem dX0_sum_28 : decode cX0_sum 28 = .ok (.iload 5, 2) := dk_21 5 (dk_at dksX0_sum_1 5 rfl rfl)
theorem dX0_sum_30 : decode cX0_sum 30 = .ok (.iaload, 1) := dk_46 (dk_at dksX0_sum_1 7 rfl rfl)
theorem dX0_sum_31 : decode cX0_sum 31 = .ok (.i2l, 1) := dk_133 (dk_at dksX0_sum_1 8 rfl rfl)
theorem dX0_sum_32 : decode cX0_sum 32 = .ok (.ldc2_w 14, 3) := dk_20 0 14 (dk_at dksX0_sum_1 9 rfl rfl)
theorem dX0_sum_35 : decode cX0_sum 35 = .ok (.land, 1) := dk_127 (dk_at dksX0_sum_1 12 rfl rfl)
theorem dX0_sum_36 : decode cX0_sum 36 = .ok (.ladd, 1) := dk_97 (dk_at dksX0_sum_1 13 rfl rfl)
theorem dX0_sum_37 : decode cX0_sum 37 = .ok (.ladd, 1) := dk_97 (dk_at dksX0_sum_1 14 rfl rfl)
theorem dX0_sum_38 : decode cX0_sum 38 = .ok (.lstore_n 3, 1) := dk_66 (dk_at dksX0_sum_1 15 rfl rfl)
theorem dX0_sum_39 : decode cX0_sum 39 = .ok (.aload_n 2, 1) := dk_44 (dk_at dksX0_sum_1 16 rfl rfl)
theorem dX0_sum_40 : decode cX0_sum 40 = .ok (.iload 5, 2) := dk_21 5 (dk_at dksX0_sum_1 17 rfl rfl)
theorem dX0_sum_42 : decode cX0_sum 42 = .ok (.lload_n 3, 1) := dk_33 (dk_at dksX0_sum_1 19 rfl rfl)
theorem dX0_sum_43 : decode cX0_sum 43 = .ok (.l2i, 1) := dk_136 (dk_at dksX0_sum_1 20 rfl rfl)
theorem dX0_sum_44 : decode cX0_sum 44 = .ok (.iastore, 1) := dk_79 (dk_at dksX0_sum_1 21 rfl rfl)
theorem dX0_sum_45 : decode cX0_sum 45 = .ok (.lload_n 3, 1) := dk_33 (dk_at dksX0_sum_1 22 rfl rfl)
theorem dX0_sum_46 : decode cX0_sum 46 = .ok (.bipush 32, 2) := dk_16 32 (dk_at dksX0_sum_2 0 rfl rfl)
theorem dX0_sum_48 : decode cX0_sum 48 = .ok (.lshr, 1) := dk_123 (dk_at dksX0_sum_2 2 rfl rfl)
theorem dX0_sum_49 : decode cX0_sum 49 = .ok (.lstore_n 3, 1) := dk_66 (dk_at dksX0_sum_2 3 rfl rfl)
theorem dX0_sum_50 : decode cX0_sum 50 = .ok (.iinc 5 1, 3) := dk_132 5 1 (dk_at dksX0_sum_2 4 rfl rfl)
theorem dX0_sum_53 : decode cX0_sum 53 = .ok (.goto (-43), 3) := dk_167 255 213 (dk_at dksX0_sum_2 7 rfl rfl)
theorem dX0_sum_56 : decode cX0_sum 56 = .ok (.aload_n 2, 1) := dk_44 (dk_at dksX0_sum_2 10 rfl rfl)
theorem dX0_sum_57 : decode cX0_sum 57 = .ok (.areturn, 1) := dk_176 (dk_at dksX0_sum_2 11 rfl rfl)
abbrev cX0_row : ByteArray := method_7_code
def yX0_row : MethodName := ⟨RX0, "row", "(LWnafDesk;)[I"⟩
def dkwX0_row_1 : List UInt8 := [132, 2, 1, 167, 255, 238, 43, 176]
abbrev dktX0_row_1 : List UInt8 := dkwX0_row_1 ++ []
def dkwX0_row_0 : List UInt8 := [17, 0, 253, 188, 10, 76, 3, 61, 28, 17, 0, 253, 162, 0, 17, 43, 28, 42, 28, 182, 0, 22, 79]
abbrev dktX0_row_0 : List UInt8 := dkwX0_row_0 ++ dktX0_row_1
theorem dksX0_row_0 : cX0_row.data.toList.drop 0 = dktX0_row_0 := by decide +kernel
theorem dksX0_row_1 : cX0_row.data.toList.drop 23 = dktX0_row_1 := dk_seg dksX0_row_0 23 rfl rfl
theorem dX0_row_0 : decode cX0_row 0 = .ok (.sipush 253, 3) := dk_17 0 253 (dk_at dksX0_row_0 0 rfl rfl)
theorem dX0_row_3 : decode cX0_row 3 = .ok (.newarray .int, 2) := dk_188_10 (dk_at dksX0_row_0 3 rfl rfl)
theorem dX0_row_5 : decode cX0_row 5 = .ok (.astore_n 1, 1) := dk_76 (dk_at dksX0_row_0 5 rfl rfl)
theorem dX0_row_6 : decode cX0_row 6 = .ok (.iconst 0, 1) := dk_3 (dk_at dksX0_row_0 6 rfl rfl)
theorem dX0_row_7 : decode cX0_row 7 = .ok (.istore_n 2, 1) := dk_61 (dk_at dksX0_row_0 7 rfl rfl)
theorem dX0_row_8 : decode cX0_row 8 = .ok (.iload_n 2, 1) := dk_28 (dk_at dksX0_row_0 8 rfl rfl)
theorem dX0_row_9 : decode cX0_row 9 = .ok (.sipush 253, 3) := dk_17 0 253 (dk_at dksX0_row_0 9 rfl rfl)
theorem dX0_row_12 : decode cX0_row 12 = .ok (.if_icmp .ge 17, 3) := dk_162 0 17 (dk_at dksX0_row_0 12 rfl rfl)
theorem dX0_row_15 : decode cX0_row 15 = .ok (.aload_n 1, 1) := dk_43 (dk_at dksX0_row_0 15 rfl rfl)
theorem dX0_row_16 : decode cX0_row 16 = .ok (.iload_n 2, 1) := dk_28 (dk_at dksX0_row_0 16 rfl rfl)
theorem dX0_row_17 : decode cX0_row 17 = .ok (.aload_n 0, 1) := dk_42 (dk_at dksX0_row_0 17 rfl rfl)
theorem dX0_row_18 : decode cX0_row 18 = .ok (.iload_n 2, 1) := dk_28 (dk_at dksX0_row_0 18 rfl rfl)
theorem dX0_row_19 : decode cX0_row 19 = .ok (.invokevirtual 22, 3) := dk_182 0 22 (dk_at dksX0_row_0 19 rfl rfl)
theorem dX0_row_22 : decode cX0_row 22 = .ok (.iastore, 1) := dk_79 (dk_at dksX0_row_0 22 rfl rfl)
theorem dX0_row_23 : decode cX0_row 23 = .ok (.iinc 2 1, 3) := dk_132 2 1 (dk_at dksX0_row_1 0 rfl rfl)
theorem dX0_row_26 : decode cX0_row 26 = .ok (.goto (-18), 3) := dk_167 255 238 (dk_at dksX0_row_1 3 rfl rfl)
theorem dX0_row_29 : decode cX0_row 29 = .ok (.aload_n 1, 1) := dk_43 (dk_at dksX0_row_1 6 rfl rfl)
theorem dX0_row_30 : decode cX0_row 30 = .ok (.areturn, 1) := dk_176 (dk_at dksX0_row_1 7 rfl rfl)
abbrev cX0_found : ByteArray := method_8_code
def yX0_found : MethodName := ⟨RX0, "found", "(LWnafDesk;[II)[I"⟩
def dkwX0_found_0 : List UInt8 := [42, 43, 184, 0, 26, 42, 28, 182, 0, 29, 42, 184, 0, 33, 176]
abbrev dktX0_found_0 : List UInt8 := dkwX0_found_0 ++ []
theorem dksX0_found_0 : cX0_found.data.toList.drop 0 = dktX0_found_0 := by decide +kernel
theorem dX0_found_0 : decode cX0_found 0 = .ok (.aload_n 0, 1) := dk_42 (dk_at dksX0_found_0 0 rfl rfl)
theorem dX0_found_1 : decode cX0_found 1 = .ok (.aload_n 1, 1) := dk_43 (dk_at dksX0_found_0 1 rfl rfl)
theorem dX0_found_2 : decode cX0_found 2 = .ok (.invokestatic 26, 3) := dk_184 0 26 (dk_at dksX0_found_0 2 rfl rfl)
theorem dX0_found_5 : decode cX0_found 5 = .ok (.aload_n 0, 1) := dk_42 (dk_at dksX0_found_0 5 rfl rfl)
theorem dX0_found_6 : decode cX0_found 6 = .ok (.iload_n 2, 1) := dk_28 (dk_at dksX0_found_0 6 rfl rfl)
theorem dX0_found_7 : decode cX0_found 7 = .ok (.invokevirtual 29, 3) := dk_182 0 29 (dk_at dksX0_found_0 7 rfl rfl)
theorem dX0_found_10 : decode cX0_found 10 = .ok (.aload_n 0, 1) := dk_42 (dk_at dksX0_found_0 10 rfl rfl)
theorem dX0_found_11 : decode cX0_found 11 = .ok (.invokestatic 33, 3) := dk_184 0 33 (dk_at dksX0_found_0 11 rfl rfl)
theorem dX0_found_14 : decode cX0_found 14 = .ok (.areturn, 1) := dk_176 (dk_at dksX0_found_0 14 rfl rfl)
abbrev cX0_lay : ByteArray := method_6_code
def yX0_lay : MethodName := ⟨RX0, "lay", "(LWnafDesk;[I)V"⟩
def dkwX0_lay_1 : List UInt8 := [46, 43, 16, 6, 46, 43, 16, 7, 46, 182, 0, 16, 177]
abbrev dktX0_lay_1 : List UInt8 := dkwX0_lay_1 ++ []
def dkwX0_lay_0 : List UInt8 := [42, 3, 43, 3, 46, 43, 4, 46, 43, 5, 46, 43, 6, 46, 182, 0, 16, 42, 4, 43, 7, 46, 43, 8]
abbrev dktX0_lay_0 : List UInt8 := dkwX0_lay_0 ++ dktX0_lay_1
theorem dksX0_lay_0 : cX0_lay.data.toList.drop 0 = dktX0_lay_0 := by decide +kernel
theorem dksX0_lay_1 : cX0_lay.data.toList.drop 24 = dktX0_lay_1 := dk_seg dksX0_lay_0 24 rfl rfl
theorem dX0_lay_0 : decode cX0_lay 0 = .ok (.aload_n 0, 1) := dk_42 (dk_at dksX0_lay_0 0 rfl rfl)
theorem dX0_lay_1 : decode cX0_lay 1 = .ok (.iconst 0, 1) := dk_3 (dk_at dksX0_lay_0 1 rfl rfl)
theorem dX0_lay_2 : decode cX0_lay 2 = .ok (.aload_n 1, 1) := dk_43 (dk_at dksX0_lay_0 2 rfl rfl)
theorem dX0_lay_3 : decode cX0_lay 3 = .ok (.iconst 0, 1) := dk_3 (dk_at dksX0_lay_0 3 rfl rfl)
theorem dX0_lay_4 : decode cX0_lay 4 = .ok (.iaload, 1) := dk_46 (dk_at dksX0_lay_0 4 rfl rfl)
theorem dX0_lay_5 : decode cX0_lay 5 = .ok (.aload_n 1, 1) := dk_43 (dk_at dksX0_lay_0 5 rfl rfl)
theorem dX0_lay_6 : decode cX0_lay 6 = .ok (.iconst 1, 1) := dk_4 (dk_at dksX0_lay_0 6 rfl rfl)
theorem dX0_lay_7 : decode cX0_lay 7 = .ok (.iaload, 1) := dk_46 (dk_at dksX0_lay_0 7 rfl rfl)
theorem dX0_lay_8 : decode cX0_lay 8 = .ok (.aload_n 1, 1) := dk_43 (dk_at dksX0_lay_0 8 rfl rfl)
theorem dX0_lay_9 : decode cX0_lay 9 = .ok (.iconst 2, 1) := dk_5 (dk_at dksX0_lay_0 9 rfl rfl)
theorem dX0_lay_10 : decode cX0_lay 10 = .ok (.iaload, 1) := dk_46 (dk_at dksX0_lay_0 10 rfl rfl)
theorem dX0_lay_11 : decode cX0_lay 11 = .ok (.aload_n 1, 1) := dk_43 (dk_at dksX0_lay_0 11 rfl rfl)
theorem dX0_lay_12 : decode cX0_lay 12 = .ok (.iconst 3, 1) := dk_6 (dk_at dksX0_lay_0 12 rfl rfl)
theorem dX0_lay_13 : decode cX0_lay 13 = .ok (.iaload, 1) := dk_46 (dk_at dksX0_lay_0 13 rfl rfl)
theorem dX0_lay_14 : decode cX0_lay 14 = .ok (.invokevirtual 16, 3) := dk_182 0 16 (dk_at dksX0_lay_0 14 rfl rfl)
theorem dX0_lay_17 : decode cX0_lay 17 = .ok (.aload_n 0, 1) := dk_42 (dk_at dksX0_lay_0 17 rfl rfl)
theorem dX0_lay_18 : decode cX0_lay 18 = .ok (.iconst 1, 1) := dk_4 (dk_at dksX0_lay_0 18 rfl rfl)
theorem dX0_lay_19 : decode cX0_lay 19 = .ok (.aload_n 1, 1) := dk_43 (dk_at dksX0_lay_0 19 rfl rfl)
theorem dX0_lay_20 : decode cX0_lay 20 = .ok (.iconst 4, 1) := dk_7 (dk_at dksX0_lay_0 20 rfl rfl)
theorem dX0_lay_21 : decode cX0_lay 21 = .ok (.iaload, 1) := dk_46 (dk_at dksX0_lay_0 21 rfl rfl)
theorem dX0_lay_22 : decode cX0_lay 22 = .ok (.aload_n 1, 1) := dk_43 (dk_at dksX0_lay_0 22 rfl rfl)
theorem dX0_lay_23 : decode cX0_lay 23 = .ok (.iconst 5, 1) := dk_8 (dk_at dksX0_lay_0 23 rfl rfl)
theorem dX0_lay_24 : decode cX0_lay 24 = .ok (.iaload, 1) := dk_46 (dk_at dksX0_lay_1 0 rfl rfl)
theorem dX0_lay_25 : decode cX0_lay 25 = .ok (.aload_n 1, 1) := dk_43 (dk_at dksX0_lay_1 1 rfl rfl)
theorem dX0_lay_26 : decode cX0_lay 26 = .ok (.bipush 6, 2) := dk_16 6 (dk_at dksX0_lay_1 2 rfl rfl)
theorem dX0_lay_28 : decode cX0_lay 28 = .ok (.iaload, 1) := dk_46 (dk_at dksX0_lay_1 4 rfl rfl)
theorem dX0_lay_29 : decode cX0_lay 29 = .ok (.aload_n 1, 1) := dk_43 (dk_at dksX0_lay_1 5 rfl rfl)
theorem dX0_lay_30 : decode cX0_lay 30 = .ok (.bipush 7, 2) := dk_16 7 (dk_at dksX0_lay_1 6 rfl rfl)
theorem dX0_lay_32 : decode cX0_lay 32 = .ok (.iaload, 1) := dk_46 (dk_at dksX0_lay_1 8 rfl rfl)
theorem dX0_lay_33 : decode cX0_lay 33 = .ok (.invokevirtual 16, 3) := dk_182 0 16 (dk_at dksX0_lay_1 9 rfl rfl)
theorem dX0_lay_36 : decode cX0_lay 36 = .ok (.return_, 1) := dk_177 (dk_at dksX0_lay_1 12 rfl rfl)
abbrev cX0_many : ByteArray := method_10_code
def yX0_many : MethodName := ⟨RX0, "many", "([I)I"⟩
def dkwX0_many_1 : List UInt8 := [21, 5, 153, 0, 7, 4, 167, 0, 4, 3, 96, 60, 132, 4, 1, 167, 255, 228, 27, 172]
abbrev dktX0_many_1 : List UInt8 := dkwX0_many_1 ++ []
def dkwX0_many_0 : List UInt8 := [3, 60, 42, 77, 44, 190, 62, 3, 54, 4, 21, 4, 29, 162, 0, 28, 44, 21, 4, 46, 54, 5, 27]
abbrev dktX0_many_0 : List UInt8 := dkwX0_many_0 ++ dktX0_many_1
theorem dksX0_many_0 : cX0_many.data.toList.drop 0 = dktX0_many_0 := by decide +kernel
theorem dksX0_many_1 : cX0_many.data.toList.drop 23 = dktX0_many_1 := dk_seg dksX0_many_0 23 rfl rfl
theorem dX0_many_0 : decode cX0_many 0 = .ok (.iconst 0, 1) := dk_3 (dk_at dksX0_many_0 0 rfl rfl)
theorem dX0_many_1 : decode cX0_many 1 = .ok (.istore_n 1, 1) := dk_60 (dk_at dksX0_many_0 1 rfl rfl)
theorem dX0_many_2 : decode cX0_many 2 = .ok (.aload_n 0, 1) := dk_42 (dk_at dksX0_many_0 2 rfl rfl)
theorem dX0_many_3 : decode cX0_many 3 = .ok (.astore_n 2, 1) := dk_77 (dk_at dksX0_many_0 3 rfl rfl)
theorem dX0_many_4 : decode cX0_many 4 = .ok (.aload_n 2, 1) := dk_44 (dk_at dksX0_many_0 4 rfl rfl)
theorem dX0_many_5 : decode cX0_many 5 = .ok (.arraylength, 1) := dk_190 (dk_at dksX0_many_0 5 rfl rfl)
theorem dX0_many_6 : decode cX0_many 6 = .ok (.istore_n 3, 1) := dk_62 (dk_at dksX0_many_0 6 rfl rfl)
theorem dX0_many_7 : decode cX0_many 7 = .ok (.iconst 0, 1) := dk_3 (dk_at dksX0_many_0 7 rfl rfl)
theorem dX0_many_8 : decode cX0_many 8 = .ok (.istore 4, 2) := dk_54 4 (dk_at dksX0_many_0 8 rfl rfl)
theorem dX0_many_10 : decode cX0_many 10 = .ok (.iload 4, 2) := dk_21 4 (dk_at dksX0_many_0 10 rfl rfl)
theorem dX0_many_12 : decode cX0_many 12 = .ok (.iload_n 3, 1) := dk_29 (dk_at dksX0_many_0 12 rfl rfl)
theorem dX0_many_13 : decode cX0_many 13 = .ok (.if_icmp .ge 28, 3) := dk_162 0 28 (dk_at dksX0_many_0 13 rfl rfl)
theorem dX0_many_16 : decode cX0_many 16 = .ok (.aload_n 2, 1) := dk_44 (dk_at dksX0_many_0 16 rfl rfl)
theorem dX0_many_17 : decode cX0_many 17 = .ok (.iload 4, 2) := dk_21 4 (dk_at dksX0_many_0 17 rfl rfl)
theorem dX0_many_19 : decode cX0_many 19 = .ok (.iaload, 1) := dk_46 (dk_at dksX0_many_0 19 rfl rfl)
theorem dX0_many_20 : decode cX0_many 20 = .ok (.istore 5, 2) := dk_54 5 (dk_at dksX0_many_0 20 rfl rfl)
theorem dX0_many_22 : decode cX0_many 22 = .ok (.iload_n 1, 1) := dk_27 (dk_at dksX0_many_0 22 rfl rfl)
theorem dX0_many_23 : decode cX0_many 23 = .ok (.iload 5, 2) := dk_21 5 (dk_at dksX0_many_1 0 rfl rfl)
theorem dX0_many_25 : decode cX0_many 25 = .ok (.ifCond .eq 7, 3) := dk_153 0 7 (dk_at dksX0_many_1 2 rfl rfl)
theorem dX0_many_28 : decode cX0_many 28 = .ok (.iconst 1, 1) := dk_4 (dk_at dksX0_many_1 5 rfl rfl)
theorem dX0_many_29 : decode cX0_many 29 = .ok (.goto 4, 3) := dk_167 0 4 (dk_at dksX0_many_1 6 rfl rfl)
theorem dX0_many_32 : decode cX0_many 32 = .ok (.iconst 0, 1) := dk_3 (dk_at dksX0_many_1 9 rfl rfl)
theorem dX0_many_33 : decode cX0_many 33 = .ok (.iadd, 1) := dk_96 (dk_at dksX0_many_1 10 rfl rfl)
theorem dX0_many_34 : decode cX0_many 34 = .ok (.istore_n 1, 1) := dk_60 (dk_at dksX0_many_1 11 rfl rfl)
theorem dX0_many_35 : decode cX0_many 35 = .ok (.iinc 4 1, 3) := dk_132 4 1 (dk_at dksX0_many_1 12 rfl rfl)
theorem dX0_many_38 : decode cX0_many 38 = .ok (.goto (-28), 3) := dk_167 255 228 (dk_at dksX0_many_1 15 rfl rfl)
theorem dX0_many_41 : decode cX0_many 41 = .ok (.iload_n 1, 1) := dk_27 (dk_at dksX0_many_1 18 rfl rfl)
theorem dX0_many_42 : decode cX0_many 42 = .ok (.ireturn, 1) := dk_172 (dk_at dksX0_many_1 19 rfl rfl)
abbrev cX0_makes : ByteArray := method_12_code
def yX0_makes : MethodName := ⟨RX0, "makes", "([I[I)Z"⟩
def dkwX0_makes_2 : List UInt8 := [167, 0, 4, 3, 172]
abbrev dktX0_makes_2 : List UInt8 := dkwX0_makes_2 ++ []
def dkwX0_makes_1 : List UInt8 := [4, 126, 153, 0, 5, 3, 172, 28, 5, 108, 61, 132, 3, 1, 167, 255, 222, 28, 154, 0, 7, 4]
abbrev dktX0_makes_1 : List UInt8 := dkwX0_makes_1 ++ dktX0_makes_2
def dkwX0_makes_0 : List UInt8 := [3, 61, 3, 62, 29, 17, 0, 253, 162, 0, 33, 28, 42, 29, 46, 43, 29, 184, 0, 37, 100, 96, 61, 28]
abbrev dktX0_makes_0 : List UInt8 := dkwX0_makes_0 ++ dktX0_makes_1
theorem dksX0_makes_0 : cX0_makes.data.toList.drop 0 = dktX0_makes_0 := by decide +kernel
theorem dksX0_makes_1 : cX0_makes.data.toList.drop 24 = dktX0_makes_1 := dk_seg dksX0_makes_0 24 rfl rfl
theorem dksX0_makes_2 : cX0_makes.data.toList.drop 46 = dktX0_makes_2 := dk_seg dksX0_makes_1 22 rfl rfl
theorem dX0_makes_0 : decode cX0_makes 0 = .ok (.iconst 0, 1) := dk_3 (dk_at dksX0_makes_0 0 rfl rfl)
theorem dX0_makes_1 : decode cX0_makes 1 = .ok (.istore_n 2, 1) := dk_61 (dk_at dksX0_makes_0 1 rfl rfl)
theorem dX0_makes_2 : decode cX0_makes 2 = .ok (.iconst 0, 1) := dk_3 (dk_at dksX0_makes_0 2 rfl rfl)
theorem dX0_makes_3 : decode cX0_makes 3 = .ok (.istore_n 3, 1) := dk_62 (dk_at dksX0_makes_0 3 rfl rfl)
theorem dX0_makes_4 : decode cX0_makes 4 = .ok (.iload_n 3, 1) := dk_29 (dk_at dksX0_makes_0 4 rfl rfl)
theorem dX0_makes_5 : decode cX0_makes 5 = .ok (.sipush 253, 3) := dk_17 0 253 (dk_at dksX0_makes_0 5 rfl rfl)
theorem dX0_makes_8 : decode cX0_makes 8 = .ok (.if_icmp .ge 33, 3) := dk_162 0 33 (dk_at dksX0_makes_0 8 rfl rfl)
theorem dX0_makes_11 : decode cX0_makes 11 = .ok (.iload_n 2, 1) := dk_28 (dk_at dksX0_makes_0 11 rfl rfl)
theorem dX0_makes_12 : decode cX0_makes 12 = .ok (.aload_n 0, 1) := dk_42 (dk_at dksX0_makes_0 12 rfl rfl)
theorem dX0_makes_13 : decode cX0_makes 13 = .ok (.iload_n 3, 1) := dk_29 (dk_at dksX0_makes_0 13 rfl rfl)
theorem dX0_makes_14 : decode cX0_makes 14 = .ok (.iaload, 1) := dk_46 (dk_at dksX0_makes_0 14 rfl rfl)
theorem dX0_makes_15 : decode cX0_makes 15 = .ok (.aload_n 1, 1) := dk_43 (dk_at dksX0_makes_0 15 rfl rfl)
theorem dX0_makes_16 : decode cX0_makes 16 = .ok (.iload_n 3, 1) := dk_29 (dk_at dksX0_makes_0 16 rfl rfl)
theorem dX0_makes_17 : decode cX0_makes 17 = .ok (.invokestatic 37, 3) := dk_184 0 37 (dk_at dksX0_makes_0 17 rfl rfl)
theorem dX0_makes_20 : decode cX0_makes 20 = .ok (.isub, 1) := dk_100 (dk_at dksX0_makes_0 20 rfl rfl)
theorem dX0_makes_21 : decode cX0_makes 21 = .ok (.iadd, 1) := dk_96 (dk_at dksX0_makes_0 21 rfl rfl)
theorem dX0_makes_22 : decode cX0_makes 22 = .ok (.istore_n 2, 1) := dk_61 (dk_at dksX0_makes_0 22 rfl rfl)
theorem dX0_makes_23 : decode cX0_makes 23 = .ok (.iload_n 2, 1) := dk_28 (dk_at dksX0_makes_0 23 rfl rfl)
theorem dX0_makes_24 : decode cX0_makes 24 = .ok (.iconst 1, 1) := dk_4 (dk_at dksX0_makes_1 0 rfl rfl)
theorem dX0_makes_25 : decode cX0_makes 25 = .ok (.iand, 1) := dk_126 (dk_at dksX0_makes_1 1 rfl rfl)
theorem dX0_makes_26 : decode cX0_makes 26 = .ok (.ifCond .eq 5, 3) := dk_153 0 5 (dk_at dksX0_makes_1 2 rfl rfl)
theorem dX0_makes_29 : decode cX0_makes 29 = .ok (.iconst 0, 1) := dk_3 (dk_at dksX0_makes_1 5 rfl rfl)
theorem dX0_makes_30 : decode cX0_makes 30 = .ok (.ireturn, 1) := dk_172 (dk_at dksX0_makes_1 6 rfl rfl)
theorem dX0_makes_31 : decode cX0_makes 31 = .ok (.iload_n 2, 1) := dk_28 (dk_at dksX0_makes_1 7 rfl rfl)
theorem dX0_makes_32 : decode cX0_makes 32 = .ok (.iconst 2, 1) := dk_5 (dk_at dksX0_makes_1 8 rfl rfl)
theorem dX0_makes_33 : decode cX0_makes 33 = .ok (.idiv, 1) := dk_108 (dk_at dksX0_makes_1 9 rfl rfl)
theorem dX0_makes_34 : decode cX0_makes 34 = .ok (.istore_n 2, 1) := dk_61 (dk_at dksX0_makes_1 10 rfl rfl)
theorem dX0_makes_35 : decode cX0_makes 35 = .ok (.iinc 3 1, 3) := dk_132 3 1 (dk_at dksX0_makes_1 11 rfl rfl)
theorem dX0_makes_38 : decode cX0_makes 38 = .ok (.goto (-34), 3) := dk_167 255 222 (dk_at dksX0_makes_1 14 rfl rfl)
theorem dX0_makes_41 : decode cX0_makes 41 = .ok (.iload_n 2, 1) := dk_28 (dk_at dksX0_makes_1 17 rfl rfl)
theorem dX0_makes_42 : decode cX0_makes 42 = .ok (.ifCond .ne 7, 3) := dk_154 0 7 (dk_at dksX0_makes_1 18 rfl rfl)
theorem dX0_makes_45 : decode cX0_makes 45 = .ok (.iconst 1, 1) := dk_4 (dk_at dksX0_makes_1 21 rfl rfl)
theorem dX0_makes_46 : decode cX0_makes 46 = .ok (.goto 4, 3) := dk_167 0 4 (dk_at dksX0_makes_2 0 rfl rfl)
theorem dX0_makes_49 : decode cX0_makes 49 = .ok (.iconst 0, 1) := dk_3 (dk_at dksX0_makes_2 3 rfl rfl)
theorem dX0_makes_50 : decode cX0_makes 50 = .ok (.ireturn, 1) := dk_172 (dk_at dksX0_makes_2 4 rfl rfl)
abbrev cX0_bit : ByteArray := method_5_code
def yX0_bit : MethodName := ⟨RX0, "bit", "([II)I"⟩
def dkwX0_bit_0 : List UInt8 := [27, 17, 0, 252, 162, 0, 18, 42, 27, 8, 122, 46, 27, 16, 31, 126, 122, 4, 126, 167, 0, 4, 3, 172]
abbrev dktX0_bit_0 : List UInt8 := dkwX0_bit_0 ++ []
theorem dksX0_bit_0 : cX0_bit.data.toList.drop 0 = dktX0_bit_0 := by decide +kernel
theorem dX0_bit_0 : decode cX0_bit 0 = .ok (.iload_n 1, 1) := dk_27 (dk_at dksX0_bit_0 0 rfl rfl)
theorem dX0_bit_1 : decode cX0_bit 1 = .ok (.sipush 252, 3) := dk_17 0 252 (dk_at dksX0_bit_0 1 rfl rfl)
theorem dX0_bit_4 : decode cX0_bit 4 = .ok (.if_icmp .ge 18, 3) := dk_162 0 18 (dk_at dksX0_bit_0 4 rfl rfl)
theorem dX0_bit_7 : decode cX0_bit 7 = .ok (.aload_n 0, 1) := dk_42 (dk_at dksX0_bit_0 7 rfl rfl)
theorem dX0_bit_8 : decode cX0_bit 8 = .ok (.iload_n 1, 1) := dk_27 (dk_at dksX0_bit_0 8 rfl rfl)
theorem dX0_bit_9 : decode cX0_bit 9 = .ok (.iconst 5, 1) := dk_8 (dk_at dksX0_bit_0 9 rfl rfl)
theorem dX0_bit_10 : decode cX0_bit 10 = .ok (.ishr, 1) := dk_122 (dk_at dksX0_bit_0 10 rfl rfl)
theorem dX0_bit_11 : decode cX0_bit 11 = .ok (.iaload, 1) := dk_46 (dk_at dksX0_bit_0 11 rfl rfl)
theorem dX0_bit_12 : decode cX0_bit 12 = .ok (.iload_n 1, 1) := dk_27 (dk_at dksX0_bit_0 12 rfl rfl)
theorem dX0_bit_13 : decode cX0_bit 13 = .ok (.bipush 31, 2) := dk_16 31 (dk_at dksX0_bit_0 13 rfl rfl)
theorem dX0_bit_15 : decode cX0_bit 15 = .ok (.iand, 1) := dk_126 (dk_at dksX0_bit_0 15 rfl rfl)
theorem dX0_bit_16 : decode cX0_bit 16 = .ok (.ishr, 1) := dk_122 (dk_at dksX0_bit_0 16 rfl rfl)
theorem dX0_bit_17 : decode cX0_bit 17 = .ok (.iconst 1, 1) := dk_4 (dk_at dksX0_bit_0 17 rfl rfl)
theorem dX0_bit_18 : decode cX0_bit 18 = .ok (.iand, 1) := dk_126 (dk_at dksX0_bit_0 18 rfl rfl)
theorem dX0_bit_19 : decode cX0_bit 19 = .ok (.goto 4, 3) := dk_167 0 4 (dk_at dksX0_bit_0 19 rfl rfl)
theorem dX0_bit_22 : decode cX0_bit 22 = .ok (.iconst 0, 1) := dk_3 (dk_at dksX0_bit_0 22 rfl rfl)
theorem dX0_bit_23 : decode cX0_bit 23 = .ok (.ireturn, 1) := dk_172 (dk_at dksX0_bit_0 23 rfl rfl)
abbrev cX0_isForm : ByteArray := method_13_code
def yX0_isForm : MethodName := ⟨RX0, "isForm", "([II)Z"⟩
def dkwX0_isForm_3 : List UInt8 := [62, 132, 4, 1, 167, 255, 196, 4, 172]
abbrev dktX0_isForm_3 : List UInt8 := dkwX0_isForm_3 ++ []
def dkwX0_isForm_2 : List UInt8 := [163, 0, 20, 42, 21, 4, 46, 28, 116, 161, 0, 11, 21, 4, 29, 100, 27, 162, 0, 5, 3, 172, 21, 4]
abbrev dktX0_isForm_2 : List UInt8 := dkwX0_isForm_2 ++ dktX0_isForm_3
def dkwX0_isForm_1 : List UInt8 := [21, 4, 46, 154, 0, 6, 167, 0, 42, 42, 21, 4, 46, 4, 126, 153, 0, 28, 42, 21, 4, 46, 28]
abbrev dktX0_isForm_1 : List UInt8 := dkwX0_isForm_1 ++ dktX0_isForm_2
def dkwX0_isForm_0 : List UInt8 := [4, 27, 4, 100, 120, 4, 100, 61, 27, 116, 62, 3, 54, 4, 21, 4, 17, 0, 253, 162, 0, 58, 42]
abbrev dktX0_isForm_0 : List UInt8 := dkwX0_isForm_0 ++ dktX0_isForm_1
theorem dksX0_isForm_0 : cX0_isForm.data.toList.drop 0 = dktX0_isForm_0 := by decide +kernel
theorem dksX0_isForm_1 : cX0_isForm.data.toList.drop 23 = dktX0_isForm_1 := dk_seg dksX0_isForm_0 23 rfl rfl
theorem dksX0_isForm_2 : cX0_isForm.data.toList.drop 46 = dktX0_isForm_2 := dk_seg dksX0_isForm_1 23 rfl rfl
theorem dksX0_isForm_3 : cX0_isForm.data.toList.drop 70 = dktX0_isForm_3 := dk_seg dksX0_isForm_2 24 rfl rfl
theorem dX0_isForm_0 : decode cX0_isForm 0 = .ok (.iconst 1, 1) := dk_4 (dk_at dksX0_isForm_0 0 rfl rfl)
theorem dX0_isForm_1 : decode cX0_isForm 1 = .ok (.iload_n 1, 1) := dk_27 (dk_at dksX0_isForm_0 1 rfl rfl)
theorem dX0_isForm_2 : decode cX0_isForm 2 = .ok (.iconst 1, 1) := dk_4 (dk_at dksX0_isForm_0 2 rfl rfl)
theorem dX0_isForm_3 : decode cX0_isForm 3 = .ok (.isub, 1) := dk_100 (dk_at dksX0_isForm_0 3 rfl rfl)
theorem dX0_isForm_4 : decode cX0_isForm 4 = .ok (.ishl, 1) := dk_120 (dk_at dksX0_isForm_0 4 rfl rfl)
theorem dX0_isForm_5 : decode cX0_isForm 5 = .ok (.iconst 1, 1) := dk_4 (dk_at dksX0_isForm_0 5 rfl rfl)
theorem dX0_isForm_6 : decode cX0_isForm 6 = .ok (.isub, 1) := dk_100 (dk_at dksX0_isForm_0 6 rfl rfl)
theorem dX0_isForm_7 : decode cX0_isForm 7 = .ok (.istore_n 2, 1) := dk_61 (dk_at dksX0_isForm_0 7 rfl rfl)
theorem dX0_isForm_8 : decode cX0_isForm 8 = .ok (.iload_n 1, 1) := dk_27 (dk_at dksX0_isForm_0 8 rfl rfl)
theorem dX0_isForm_9 : decode cX0_isForm 9 = .ok (.ineg, 1) := dk_116 (dk_at dksX0_isForm_0 9 rfl rfl)
theorem dX0_isForm_10 : decode cX0_isForm 10 = .ok (.istore_n 3, 1) := dk_62 (dk_at dksX0_isForm_0 10 rfl rfl)
theorem dX0_isForm_11 : decode cX0_isForm 11 = .ok (.iconst 0, 1) := dk_3 (dk_at dksX0_isForm_0 11 rfl rfl)
theorem dX0_isForm_12 : decode cX0_isForm 12 = .ok (.istore 4, 2) := dk_54 4 (dk_at dksX0_isForm_0 12 rfl rfl)
theorem dX0_isForm_14 : decode cX0_isForm 14 = .ok (.iload 4, 2) := dk_21 4 (dk_at dksX0_isForm_0 14 rfl rfl)
theorem dX0_isForm_16 : decode cX0_isForm 16 = .ok (.sipush 253, 3) := dk_17 0 253 (dk_at dksX0_isForm_0 16 rfl rfl)
theorem dX0_isForm_19 : decode cX0_isForm 19 = .ok (.if_icmp .ge 58, 3) := dk_162 0 58 (dk_at dksX0_isForm_0 19 rfl rfl)
theorem dX0_isForm_22 : decode cX0_isForm 22 = .ok (.aload_n 0, 1) := dk_42 (dk_at dksX0_isForm_0 22 rfl rfl)
theorem dX0_isForm_23 : decode cX0_isForm 23 = .ok (.iload 4, 2) := dk_21 4 (dk_at dksX0_isForm_1 0 rfl rfl)
theorem dX0_isForm_25 : decode cX0_isForm 25 = .ok (.iaload, 1) := dk_46 (dk_at dksX0_isForm_1 2 rfl rfl)
theorem dX0_isForm_26 : decode cX0_isForm 26 = .ok (.ifCond .ne 6, 3) := dk_154 0 6 (dk_at dksX0_isForm_1 3 rfl rfl)
theorem dX0_isForm_29 : decode cX0_isForm 29 = .ok (.goto 42, 3) := dk_167 0 42 (dk_at dksX0_isForm_1 6 rfl rfl)
theorem dX0_isForm_32 : decode cX0_isForm 32 = .ok (.aload_n 0, 1) := dk_42 (dk_at dksX0_isForm_1 9 rfl rfl)
theorem dX0_isForm_33 : decode cX0_isForm 33 = .ok (.iload 4, 2) := dk_21 4 (dk_at dksX0_isForm_1 10 rfl rfl)
theorem dX0_isForm_35 : decode cX0_isForm 35 = .ok (.iaload, 1) := dk_46 (dk_at dksX0_isForm_1 12 rfl rfl)
theorem dX0_isForm_36 : decode cX0_isForm 36 = .ok (.iconst 1, 1) := dk_4 (dk_at dksX0_isForm_1 13 rfl rfl)
theorem dX0_isForm_37 : decode cX0_isForm 37 = .ok (.iand, 1) := dk_126 (dk_at dksX0_isForm_1 14 rfl rfl)
theorem dX0_isForm_38 : decode cX0_isForm 38 = .ok (.ifCond .eq 28, 3) := dk_153 0 28 (dk_at dksX0_isForm_1 15 rfl rfl)
theorem dX0_isForm_41 : decode cX0_isForm 41 = .ok (.aload_n 0, 1) := dk_42 (dk_at dksX0_isForm_1 18 rfl rfl)
theorem dX0_isForm_42 : decode cX0_isForm 42 = .ok (.iload 4, 2) := dk_21 4 (dk_at dksX0_isForm_1 19 rfl rfl)
theorem dX0_isForm_44 : decode cX0_isForm 44 = .ok (.iaload, 1) := dk_46 (dk_at dksX0_isForm_1 21 rfl rfl)
theorem dX0_isForm_45 : decode cX0_isForm 45 = .ok (.iload_n 2, 1) := dk_28 (dk_at dksX0_isForm_1 22 rfl rfl)
theorem dX0_isForm_46 : decode cX0_isForm 46 = .ok (.if_icmp .gt 20, 3) := dk_163 0 20 (dk_at dksX0_isForm_2 0 rfl rfl)
theorem dX0_isForm_49 : decode cX0_isForm 49 = .ok (.aload_n 0, 1) := dk_42 (dk_at dksX0_isForm_2 3 rfl rfl)
theorem dX0_isForm_50 : decode cX0_isForm 50 = .ok (.iload 4, 2) := dk_21 4 (dk_at dksX0_isForm_2 4 rfl rfl)
theorem dX0_isForm_52 : decode cX0_isForm 52 = .ok (.iaload, 1) := dk_46 (dk_at dksX0_isForm_2 6 rfl rfl)
theorem dX0_isForm_53 : decode cX0_isForm 53 = .ok (.iload_n 2, 1) := dk_28 (dk_at dksX0_isForm_2 7 rfl rfl)
theorem dX0_isForm_54 : decode cX0_isForm 54 = .ok (.ineg, 1) := dk_116 (dk_at dksX0_isForm_2 8 rfl rfl)
theorem dX0_isForm_55 : decode cX0_isForm 55 = .ok (.if_icmp .lt 11, 3) := dk_161 0 11 (dk_at dksX0_isForm_2 9 rfl rfl)
theorem dX0_isForm_58 : decode cX0_isForm 58 = .ok (.iload 4, 2) := dk_21 4 (dk_at dksX0_isForm_2 12 rfl rfl)
theorem dX0_isForm_60 : decode cX0_isForm 60 = .ok (.iload_n 3, 1) := dk_29 (dk_at dksX0_isForm_2 14 rfl rfl)
theorem dX0_isForm_61 : decode cX0_isForm 61 = .ok (.isub, 1) := dk_100 (dk_at dksX0_isForm_2 15 rfl rfl)
theorem dX0_isForm_62 : decode cX0_isForm 62 = .ok (.iload_n 1, 1) := dk_27 (dk_at dksX0_isForm_2 16 rfl rfl)
theorem dX0_isForm_63 : decode cX0_isForm 63 = .ok (.if_icmp .ge 5, 3) := dk_162 0 5 (dk_at dksX0_isForm_2 17 rfl rfl)
theorem dX0_isForm_66 : decode cX0_isForm 66 = .ok (.iconst 0, 1) := dk_3 (dk_at dksX0_isForm_2 20 rfl rfl)
theorem dX0_isForm_67 : decode cX0_isForm 67 = .ok (.ireturn, 1) := dk_172 (dk_at dksX0_isForm_2 21 rfl rfl)
theorem dX0_isForm_68 : decode cX0_isForm 68 = .ok (.iload 4, 2) := dk_21 4 (dk_at dksX0_isForm_2 22 rfl rfl)
theorem dX0_isForm_70 : decode cX0_isForm 70 = .ok (.istore_n 3, 1) := dk_62 (dk_at dksX0_isForm_3 0 rfl rfl)
theorem dX0_isForm_71 : decode cX0_isForm 71 = .ok (.iinc 4 1, 3) := dk_132 4 1 (dk_at dksX0_isForm_3 1 rfl rfl)
theorem dX0_isForm_74 : decode cX0_isForm 74 = .ok (.goto (-60), 3) := dk_167 255 196 (dk_at dksX0_isForm_3 4 rfl rfl)
theorem dX0_isForm_77 : decode cX0_isForm 77 = .ok (.iconst 1, 1) := dk_4 (dk_at dksX0_isForm_3 7 rfl rfl)
theorem dX0_isForm_78 : decode cX0_isForm 78 = .ok (.ireturn, 1) := dk_172 (dk_at dksX0_isForm_3 8 rfl rfl)
abbrev cX0_widths : ByteArray := method_14_code
def yX0_widths : MethodName := ⟨RX0, "widths", "(LWnafDesk;[II)Z"⟩
def dkwX0_widths_7 : List UInt8 := [132, 4, 1, 167, 255, 98, 4, 172]
abbrev dktX0_widths_7 : List UInt8 := dkwX0_widths_7 ++ []
def dkwX0_widths_6 : List UInt8 := [46, 160, 0, 7, 4, 167, 0, 4, 3, 54, 7, 132, 8, 1, 167, 255, 218, 21, 7, 154, 0, 5, 3, 172]
abbrev dktX0_widths_6 : List UInt8 := dkwX0_widths_6 ++ dktX0_widths_7
def dkwX0_widths_5 : List UInt8 := [21, 8, 17, 0, 253, 162, 0, 36, 21, 7, 153, 0, 31, 25, 6, 21, 8, 46, 25, 5, 21, 8, 4, 100]
abbrev dktX0_widths_5 : List UInt8 := dkwX0_widths_5 ++ dktX0_widths_6
def dkwX0_widths_4 : List UInt8 := [46, 154, 0, 16, 25, 5, 17, 0, 252, 46, 154, 0, 7, 4, 167, 0, 4, 3, 54, 7, 4, 54, 8]
abbrev dktX0_widths_4 : List UInt8 := dkwX0_widths_4 ++ dktX0_widths_5
def dkwX0_widths_3 : List UInt8 := [3, 172, 25, 5, 184, 0, 60, 62, 42, 43, 43, 184, 0, 63, 21, 4, 184, 0, 44, 58, 6, 25, 6, 3]
abbrev dktX0_widths_3 : List UInt8 := dkwX0_widths_3 ++ dktX0_widths_4
def dkwX0_widths_2 : List UInt8 := [184, 0, 52, 153, 0, 21, 25, 5, 43, 184, 0, 56, 153, 0, 12, 25, 5, 184, 0, 60, 29, 164, 0, 5]
abbrev dktX0_widths_2 : List UInt8 := dkwX0_widths_2 ++ dktX0_widths_3
def dkwX0_widths_1 : List UInt8 := [184, 0, 44, 58, 5, 42, 182, 0, 48, 6, 21, 4, 96, 160, 0, 33, 25, 5, 6, 21, 4, 96]
abbrev dktX0_widths_1 : List UInt8 := dkwX0_widths_1 ++ dktX0_widths_2
def dkwX0_widths_0 : List UInt8 := [43, 184, 0, 40, 62, 3, 54, 4, 21, 4, 7, 162, 0, 158, 42, 43, 21, 4, 28, 5, 120, 128]
abbrev dktX0_widths_0 : List UInt8 := dkwX0_widths_0 ++ dktX0_widths_1
theorem dksX0_widths_0 : cX0_widths.data.toList.drop 0 = dktX0_widths_0 := by decide +kernel
theorem dksX0_widths_1 : cX0_widths.data.toList.drop 22 = dktX0_widths_1 := dk_seg dksX0_widths_0 22 rfl rfl
theorem dksX0_widths_2 : cX0_widths.data.toList.drop 44 = dktX0_widths_2 := dk_seg dksX0_widths_1 22 rfl rfl
theorem dksX0_widths_3 : cX0_widths.data.toList.drop 68 = dktX0_widths_3 := dk_seg dksX0_widths_2 24 rfl rfl
theorem dksX0_widths_4 : cX0_widths.data.toList.drop 92 = dktX0_widths_4 := dk_seg dksX0_widths_3 24 rfl rfl
theorem dksX0_widths_5 : cX0_widths.data.toList.drop 115 = dktX0_widths_5 := dk_seg dksX0_widths_4 23 rfl rfl
theorem dksX0_widths_6 : cX0_widths.data.toList.drop 139 = dktX0_widths_6 := dk_seg dksX0_widths_5 24 rfl rfl
theorem dksX0_widths_7 : cX0_widths.data.toList.drop 163 = dktX0_widths_7 := dk_seg dksX0_widths_6 24 rfl rfl
theorem dX0_widths_0 : decode cX0_widths 0 = .ok (.aload_n 1, 1) := dk_43 (dk_at dksX0_widths_0 0 rfl rfl)
theorem dX0_widths_1 : decode cX0_widths 1 = .ok (.invokestatic 40, 3) := dk_184 0 40 (dk_at dksX0_widths_0 1 rfl rfl)
theorem dX0_widths_4 : decode cX0_widths 4 = .ok (.istore_n 3, 1) := dk_62 (dk_at dksX0_widths_0 4 rfl rfl)
theorem dX0_widths_5 : decode cX0_widths 5 = .ok (.iconst 0, 1) := dk_3 (dk_at dksX0_widths_0 5 rfl rfl)
theorem dX0_widths_6 : decode cX0_widths 6 = .ok (.istore 4, 2) := dk_54 4 (dk_at dksX0_widths_0 6 rfl rfl)
theorem dX0_widths_8 : decode cX0_widths 8 = .ok (.iload 4, 2) := dk_21 4 (dk_at dksX0_widths_0 8 rfl rfl)
theorem dX0_widths_10 : decode cX0_widths 10 = .ok (.iconst 4, 1) := dk_7 (dk_at dksX0_widths_0 10 rfl rfl)
theorem dX0_widths_11 : decode cX0_widths 11 = .ok (.if_icmp .ge 158, 3) := dk_162 0 158 (dk_at dksX0_widths_0 11 rfl rfl)
theorem dX0_widths_14 : decode cX0_widths 14 = .ok (.aload_n 0, 1) := dk_42 (dk_at dksX0_widths_0 14 rfl rfl)
theorem dX0_widths_15 : decode cX0_widths 15 = .ok (.aload_n 1, 1) := dk_43 (dk_at dksX0_widths_0 15 rfl rfl)
theorem dX0_widths_16 : decode cX0_widths 16 = .ok (.iload 4, 2) := dk_21 4 (dk_at dksX0_widths_0 16 rfl rfl)
theorem dX0_widths_18 : decode cX0_widths 18 = .ok (.iload_n 2, 1) := dk_28 (dk_at dksX0_widths_0 18 rfl rfl)
theorem dX0_widths_19 : decode cX0_widths 19 = .ok (.iconst 2, 1) := dk_5 (dk_at dksX0_widths_0 19 rfl rfl)
theorem dX0_widths_20 : decode cX0_widths 20 = .ok (.ishl, 1) := dk_120 (dk_at dksX0_widths_0 20 rfl rfl)
theorem dX0_widths_21 : decode cX0_widths 21 = .ok (.ior, 1) := dk_128 (dk_at dksX0_widths_0 21 rfl rfl)
theorem dX0_widths_22 : decode cX0_widths 22 = .ok (.invokestatic 44, 3) := dk_184 0 44 (dk_at dksX0_widths_1 0 rfl rfl)
theorem dX0_widths_25 : decode cX0_widths 25 = .ok (.astore 5, 2) := dk_58 5 (dk_at dksX0_widths_1 3 rfl rfl)
theorem dX0_widths_27 : decode cX0_widths 27 = .ok (.aload_n 0, 1) := dk_42 (dk_at dksX0_widths_1 5 rfl rfl)
theorem dX0_widths_28 : decode cX0_widths 28 = .ok (.invokevirtual 48, 3) := dk_182 0 48 (dk_at dksX0_widths_1 6 rfl rfl)
theorem dX0_widths_31 : decode cX0_widths 31 = .ok (.iconst 3, 1) := dk_6 (dk_at dksX0_widths_1 9 rfl rfl)
theorem dX0_widths_32 : decode cX0_widths 32 = .ok (.iload 4, 2) := dk_21 4 (dk_at dksX0_widths_1 10 rfl rfl)
theorem dX0_widths_34 : decode cX0_widths 34 = .ok (.iadd, 1) := dk_96 (dk_at dksX0_widths_1 12 rfl rfl)
theorem dX0_widths_35 : decode cX0_widths 35 = .ok (.if_icmp .ne 33, 3) := dk_160 0 33 (dk_at dksX0_widths_1 13 rfl rfl)
theorem dX0_widths_38 : decode cX0_widths 38 = .ok (.aload 5, 2) := dk_25 5 (dk_at dksX0_widths_1 16 rfl rfl)
theorem dX0_widths_40 : decode cX0_widths 40 = .ok (.iconst 3, 1) := dk_6 (dk_at dksX0_widths_1 18 rfl rfl)
theorem dX0_widths_41 : decode cX0_widths 41 = .ok (.iload 4, 2) := dk_21 4 (dk_at dksX0_widths_1 19 rfl rfl)
theorem dX0_widths_43 : decode cX0_widths 43 = .ok (.iadd, 1) := dk_96 (dk_at dksX0_widths_1 21 rfl rfl)
theorem dX0_widths_44 : decode cX0_widths 44 = .ok (.invokestatic 52, 3) := dk_184 0 52 (dk_at dksX0_widths_2 0 rfl rfl)
theorem dX0_widths_47 : decode cX0_widths 47 = .ok (.ifCond .eq 21, 3) := dk_153 0 21 (dk_at dksX0_widths_2 3 rfl rfl)
theorem dX0_widths_50 : decode cX0_widths 50 = .ok (.aload 5, 2) := dk_25 5 (dk_at dksX0_widths_2 6 rfl rfl)
theorem dX0_widths_52 : decode cX0_widths 52 = .ok (.aload_n 1, 1) := dk_43 (dk_at dksX0_widths_2 8 rfl rfl)
theorem dX0_widths_53 : decode cX0_widths 53 = .ok (.invokestatic 56, 3) := dk_184 0 56 (dk_at dksX0_widths_2 9 rfl rfl)
theorem dX0_widths_56 : decode cX0_widths 56 = .ok (.ifCond .eq 12, 3) := dk_153 0 12 (dk_at dksX0_widths_2 12 rfl rfl)
theorem dX0_widths_59 : decode cX0_widths 59 = .ok (.aload 5, 2) := dk_25 5 (dk_at dksX0_widths_2 15 rfl rfl)
theorem dX0_widths_61 : decode cX0_widths 61 = .ok (.invokestatic 60, 3) := dk_184 0 60 (dk_at dksX0_widths_2 17 rfl rfl)
theorem dX0_widths_64 : decode cX0_widths 64 = .ok (.iload_n 3, 1) := dk_29 (dk_at dksX0_widths_2 20 rfl rfl)
theorem dX0_widths_65 : decode cX0_widths 65 = .ok (.if_icmp .le 5, 3) := dk_164 0 5 (dk_at dksX0_widths_2 21 rfl rfl)
theorem dX0_widths_68 : decode cX0_widths 68 = .ok (.iconst 0, 1) := dk_3 (dk_at dksX0_widths_3 0 rfl rfl)
theorem dX0_widths_69 : decode cX0_widths 69 = .ok (.ireturn, 1) := dk_172 (dk_at dksX0_widths_3 1 rfl rfl)
theorem dX0_widths_70 : decode cX0_widths 70 = .ok (.aload 5, 2) := dk_25 5 (dk_at dksX0_widths_3 2 rfl rfl)
theorem dX0_widths_72 : decode cX0_widths 72 = .ok (.invokestatic 60, 3) := dk_184 0 60 (dk_at dksX0_widths_3 4 rfl rfl)
theorem dX0_widths_75 : decode cX0_widths 75 = .ok (.istore_n 3, 1) := dk_62 (dk_at dksX0_widths_3 7 rfl rfl)
theorem dX0_widths_76 : decode cX0_widths 76 = .ok (.aload_n 0, 1) := dk_42 (dk_at dksX0_widths_3 8 rfl rfl)
theorem dX0_widths_77 : decode cX0_widths 77 = .ok (.aload_n 1, 1) := dk_43 (dk_at dksX0_widths_3 9 rfl rfl)
theorem dX0_widths_78 : decode cX0_widths 78 = .ok (.aload_n 1, 1) := dk_43 (dk_at dksX0_widths_3 10 rfl rfl)
theorem dX0_widths_79 : decode cX0_widths 79 = .ok (.invokestatic 63, 3) := dk_184 0 63 (dk_at dksX0_widths_3 11 rfl rfl)
theorem dX0_widths_82 : decode cX0_widths 82 = .ok (.iload 4, 2) := dk_21 4 (dk_at dksX0_widths_3 14 rfl rfl)
theorem dX0_widths_84 : decode cX0_widths 84 = .ok (.invokestatic 44, 3) := dk_184 0 44 (dk_at dksX0_widths_3 16 rfl rfl)
theorem dX0_widths_87 : decode cX0_widths 87 = .ok (.astore 6, 2) := dk_58 6 (dk_at dksX0_widths_3 19 rfl rfl)
theorem dX0_widths_89 : decode cX0_widths 89 = .ok (.aload 6, 2) := dk_25 6 (dk_at dksX0_widths_3 21 rfl rfl)
theorem dX0_widths_91 : decode cX0_widths 91 = .ok (.iconst 0, 1) := dk_3 (dk_at dksX0_widths_3 23 rfl rfl)
theorem dX0_widths_92 : decode cX0_widths 92 = .ok (.iaload, 1) := dk_46 (dk_at dksX0_widths_4 0 rfl rfl)
theorem dX0_widths_93 : decode cX0_widths 93 = .ok (.ifCond .ne 16, 3) := dk_154 0 16 (dk_at dksX0_widths_4 1 rfl rfl)
theorem dX0_widths_96 : decode cX0_widths 96 = .ok (.aload 5, 2) := dk_25 5 (dk_at dksX0_widths_4 4 rfl rfl)
theorem dX0_widths_98 : decode cX0_widths 98 = .ok (.sipush 252, 3) := dk_17 0 252 (dk_at dksX0_widths_4 6 rfl rfl)
theorem dX0_widths_101 : decode cX0_widths 101 = .ok (.iaload, 1) := dk_46 (dk_at dksX0_widths_4 9 rfl rfl)
theorem dX0_widths_102 : decode cX0_widths 102 = .ok (.ifCond .ne 7, 3) := dk_154 0 7 (dk_at dksX0_widths_4 10 rfl rfl)
theorem dX0_widths_105 : decode cX0_widths 105 = .ok (.iconst 1, 1) := dk_4 (dk_at dksX0_widths_4 13 rfl rfl)
theorem dX0_widths_106 : decode cX0_widths 106 = .ok (.goto 4, 3) := dk_167 0 4 (dk_at dksX0_widths_4 14 rfl rfl)
theorem dX0_widths_109 : decode cX0_widths 109 = .ok (.iconst 0, 1) := dk_3 (dk_at dksX0_widths_4 17 rfl rfl)
theorem dX0_widths_110 : decode cX0_widths 110 = .ok (.istore 7, 2) := dk_54 7 (dk_at dksX0_widths_4 18 rfl rfl)
theorem dX0_widths_112 : decode cX0_widths 112 = .ok (.iconst 1, 1) := dk_4 (dk_at dksX0_widths_4 20 rfl rfl)
theorem dX0_widths_113 : decode cX0_widths 113 = .ok (.istore 8, 2) := dk_54 8 (dk_at dksX0_widths_4 21 rfl rfl)
theorem dX0_widths_115 : decode cX0_widths 115 = .ok (.iload 8, 2) := dk_21 8 (dk_at dksX0_widths_5 0 rfl rfl)
theorem dX0_widths_117 : decode cX0_widths 117 = .ok (.sipush 253, 3) := dk_17 0 253 (dk_at dksX0_widths_5 2 rfl rfl)
theorem dX0_widths_120 : decode cX0_widths 120 = .ok (.if_icmp .ge 36, 3) := dk_162 0 36 (dk_at dksX0_widths_5 5 rfl rfl)
theorem dX0_widths_123 : decode cX0_widths 123 = .ok (.iload 7, 2) := dk_21 7 (dk_at dksX0_widths_5 8 rfl rfl)
theorem dX0_widths_125 : decode cX0_widths 125 = .ok (.ifCond .eq 31, 3) := dk_153 0 31 (dk_at dksX0_widths_5 10 rfl rfl)
theorem dX0_widths_128 : decode cX0_widths 128 = .ok (.aload 6, 2) := dk_25 6 (dk_at dksX0_widths_5 13 rfl rfl)
theorem dX0_widths_130 : decode cX0_widths 130 = .ok (.iload 8, 2) := dk_21 8 (dk_at dksX0_widths_5 15 rfl rfl)
theorem dX0_widths_132 : decode cX0_widths 132 = .ok (.iaload, 1) := dk_46 (dk_at dksX0_widths_5 17 rfl rfl)
theorem dX0_widths_133 : decode cX0_widths 133 = .ok (.aload 5, 2) := dk_25 5 (dk_at dksX0_widths_5 18 rfl rfl)
theorem dX0_widths_135 : decode cX0_widths 135 = .ok (.iload 8, 2) := dk_21 8 (dk_at dksX0_widths_5 20 rfl rfl)
theorem dX0_widths_137 : decode cX0_widths 137 = .ok (.iconst 1, 1) := dk_4 (dk_at dksX0_widths_5 22 rfl rfl)
theorem dX0_widths_138 : decode cX0_widths 138 = .ok (.isub, 1) := dk_100 (dk_at dksX0_widths_5 23 rfl rfl)
theorem dX0_widths_139 : decode cX0_widths 139 = .ok (.iaload, 1) := dk_46 (dk_at dksX0_widths_6 0 rfl rfl)
theorem dX0_widths_140 : decode cX0_widths 140 = .ok (.if_icmp .ne 7, 3) := dk_160 0 7 (dk_at dksX0_widths_6 1 rfl rfl)
theorem dX0_widths_143 : decode cX0_widths 143 = .ok (.iconst 1, 1) := dk_4 (dk_at dksX0_widths_6 4 rfl rfl)
theorem dX0_widths_144 : decode cX0_widths 144 = .ok (.goto 4, 3) := dk_167 0 4 (dk_at dksX0_widths_6 5 rfl rfl)
theorem dX0_widths_147 : decode cX0_widths 147 = .ok (.iconst 0, 1) := dk_3 (dk_at dksX0_widths_6 8 rfl rfl)
theorem dX0_widths_148 : decode cX0_widths 148 = .ok (.istore 7, 2) := dk_54 7 (dk_at dksX0_widths_6 9 rfl rfl)
theorem dX0_widths_150 : decode cX0_widths 150 = .ok (.iinc 8 1, 3) := dk_132 8 1 (dk_at dksX0_widths_6 11 rfl rfl)
theorem dX0_widths_153 : decode cX0_widths 153 = .ok (.goto (-38), 3) := dk_167 255 218 (dk_at dksX0_widths_6 14 rfl rfl)
theorem dX0_widths_156 : decode cX0_widths 156 = .ok (.iload 7, 2) := dk_21 7 (dk_at dksX0_widths_6 17 rfl rfl)
theorem dX0_widths_158 : decode cX0_widths 158 = .ok (.ifCond .ne 5, 3) := dk_154 0 5 (dk_at dksX0_widths_6 19 rfl rfl)
theorem dX0_widths_161 : decode cX0_widths 161 = .ok (.iconst 0, 1) := dk_3 (dk_at dksX0_widths_6 22 rfl rfl)
theorem dX0_widths_162 : decode cX0_widths 162 = .ok (.ireturn, 1) := dk_172 (dk_at dksX0_widths_6 23 rfl rfl)
theorem dX0_widths_163 : decode cX0_widths 163 = .ok (.iinc 4 1, 3) := dk_132 4 1 (dk_at dksX0_widths_7 0 rfl rfl)
theorem dX0_widths_166 : decode cX0_widths 166 = .ok (.goto (-158), 3) := dk_167 255 98 (dk_at dksX0_widths_7 3 rfl rfl)
theorem dX0_widths_169 : decode cX0_widths 169 = .ok (.iconst 1, 1) := dk_4 (dk_at dksX0_widths_7 6 rfl rfl)
theorem dX0_widths_170 : decode cX0_widths 170 = .ok (.ireturn, 1) := dk_172 (dk_at dksX0_widths_7 7 rfl rfl)
abbrev cX0_ones : ByteArray := method_11_code
def yX0_ones : MethodName := ⟨RX0, "ones", "([I)I"⟩
def dkwX0_ones_1 : List UInt8 := [167, 255, 238, 27, 172]
abbrev dktX0_ones_1 : List UInt8 := dkwX0_ones_1 ++ []
def dkwX0_ones_0 : List UInt8 := [3, 60, 3, 61, 28, 17, 0, 252, 162, 0, 17, 27, 42, 28, 184, 0, 37, 96, 60, 132, 2, 1]
abbrev dktX0_ones_0 : List UInt8 := dkwX0_ones_0 ++ dktX0_ones_1
theorem dksX0_ones_0 : cX0_ones.data.toList.drop 0 = dktX0_ones_0 := by decide +kernel
theorem dksX0_ones_1 : cX0_ones.data.toList.drop 22 = dktX0_ones_1 := dk_seg dksX0_ones_0 22 rfl rfl
theorem dX0_ones_0 : decode cX0_ones 0 = .ok (.iconst 0, 1) := dk_3 (dk_at dksX0_ones_0 0 rfl rfl)
theorem dX0_ones_1 : decode cX0_ones 1 = .ok (.istore_n 1, 1) := dk_60 (dk_at dksX0_ones_0 1 rfl rfl)
theorem dX0_ones_2 : decode cX0_ones 2 = .ok (.iconst 0, 1) := dk_3 (dk_at dksX0_ones_0 2 rfl rfl)
theorem dX0_ones_3 : decode cX0_ones 3 = .ok (.istore_n 2, 1) := dk_61 (dk_at dksX0_ones_0 3 rfl rfl)
theorem dX0_ones_4 : decode cX0_ones 4 = .ok (.iload_n 2, 1) := dk_28 (dk_at dksX0_ones_0 4 rfl rfl)
theorem dX0_ones_5 : decode cX0_ones 5 = .ok (.sipush 252, 3) := dk_17 0 252 (dk_at dksX0_ones_0 5 rfl rfl)
theorem dX0_ones_8 : decode cX0_ones 8 = .ok (.if_icmp .ge 17, 3) := dk_162 0 17 (dk_at dksX0_ones_0 8 rfl rfl)
theorem dX0_ones_11 : decode cX0_ones 11 = .ok (.iload_n 1, 1) := dk_27 (dk_at dksX0_ones_0 11 rfl rfl)
theorem dX0_ones_12 : decode cX0_ones 12 = .ok (.aload_n 0, 1) := dk_42 (dk_at dksX0_ones_0 12 rfl rfl)
theorem dX0_ones_13 : decode cX0_ones 13 = .ok (.iload_n 2, 1) := dk_28 (dk_at dksX0_ones_0 13 rfl rfl)
theorem dX0_ones_14 : decode cX0_ones 14 = .ok (.invokestatic 37, 3) := dk_184 0 37 (dk_at dksX0_ones_0 14 rfl rfl)
theorem dX0_ones_17 : decode cX0_ones 17 = .ok (.iadd, 1) := dk_96 (dk_at dksX0_ones_0 17 rfl rfl)
theorem dX0_ones_18 : decode cX0_ones 18 = .ok (.istore_n 1, 1) := dk_60 (dk_at dksX0_ones_0 18 rfl rfl)
theorem dX0_ones_19 : decode cX0_ones 19 = .ok (.iinc 2 1, 3) := dk_132 2 1 (dk_at dksX0_ones_0 19 rfl rfl)
theorem dX0_ones_22 : decode cX0_ones 22 = .ok (.goto (-18), 3) := dk_167 255 238 (dk_at dksX0_ones_1 0 rfl rfl)
theorem dX0_ones_25 : decode cX0_ones 25 = .ok (.iload_n 1, 1) := dk_27 (dk_at dksX0_ones_1 3 rfl rfl)
theorem dX0_ones_26 : decode cX0_ones 26 = .ok (.ireturn, 1) := dk_172 (dk_at dksX0_ones_1 4 rfl rfl)
abbrev cX0_stays : ByteArray := method_15_code
def yX0_stays : MethodName := ⟨RX0, "stays", "(LWnafDesk;[I[III)Z"⟩
def dkwX0_stays_4 : List UInt8 := [132, 6, 255, 167, 255, 233, 42, 29, 182, 0, 29, 42, 184, 0, 33, 25, 5, 184, 0, 71, 172]
abbrev dktX0_stays_4 : List UInt8 := dkwX0_stays_4 ++ []
def dkwX0_stays_3 : List UInt8 := [54, 6, 21, 6, 155, 0, 24, 42, 21, 6, 21, 4, 6, 120, 128, 43, 21, 6, 46, 182, 0, 67]
abbrev dktX0_stays_3 : List UInt8 := dkwX0_stays_3 ++ dktX0_stays_4
def dkwX0_stays_2 : List UInt8 := [21, 4, 182, 0, 22, 25, 5, 21, 4, 18, 74, 126, 17, 0, 253, 112, 46, 159, 0, 5, 3, 172, 16, 7]
abbrev dktX0_stays_2 : List UInt8 := dkwX0_stays_2 ++ dktX0_stays_3
def dkwX0_stays_1 : List UInt8 := [184, 0, 33, 25, 5, 184, 0, 71, 153, 0, 36, 42, 182, 0, 48, 6, 29, 6, 126, 96, 160, 0, 24, 42]
abbrev dktX0_stays_1 : List UInt8 := dkwX0_stays_1 ++ dktX0_stays_2
def dkwX0_stays_0 : List UInt8 := [42, 43, 29, 184, 0, 44, 58, 5, 42, 44, 184, 0, 26, 42, 21, 4, 21, 4, 182, 0, 67, 42]
abbrev dktX0_stays_0 : List UInt8 := dkwX0_stays_0 ++ dktX0_stays_1
theorem dksX0_stays_0 : cX0_stays.data.toList.drop 0 = dktX0_stays_0 := by decide +kernel
theorem dksX0_stays_1 : cX0_stays.data.toList.drop 22 = dktX0_stays_1 := dk_seg dksX0_stays_0 22 rfl rfl
theorem dksX0_stays_2 : cX0_stays.data.toList.drop 46 = dktX0_stays_2 := dk_seg dksX0_stays_1 24 rfl rfl
theorem dksX0_stays_3 : cX0_stays.data.toList.drop 70 = dktX0_stays_3 := dk_seg dksX0_stays_2 24 rfl rfl
theorem dksX0_stays_4 : cX0_stays.data.toList.drop 92 = dktX0_stays_4 := dk_seg dksX0_stays_3 22 rfl rfl
theorem dX0_stays_0 : decode cX0_stays 0 = .ok (.aload_n 0, 1) := dk_42 (dk_at dksX0_stays_0 0 rfl rfl)
theorem dX0_stays_1 : decode cX0_stays 1 = .ok (.aload_n 1, 1) := dk_43 (dk_at dksX0_stays_0 1 rfl rfl)
theorem dX0_stays_2 : decode cX0_stays 2 = .ok (.iload_n 3, 1) := dk_29 (dk_at dksX0_stays_0 2 rfl rfl)
theorem dX0_stays_3 : decode cX0_stays 3 = .ok (.invokestatic 44, 3) := dk_184 0 44 (dk_at dksX0_stays_0 3 rfl rfl)
theorem dX0_stays_6 : decode cX0_stays 6 = .ok (.astore 5, 2) := dk_58 5 (dk_at dksX0_stays_0 6 rfl rfl)
theorem dX0_stays_8 : decode cX0_stays 8 = .ok (.aload_n 0, 1) := dk_42 (dk_at dksX0_stays_0 8 rfl rfl)
theorem dX0_stays_9 : decode cX0_stays 9 = .ok (.aload_n 2, 1) := dk_44 (dk_at dksX0_stays_0 9 rfl rfl)
theorem dX0_stays_10 : decode cX0_stays 10 = .ok (.invokestatic 26, 3) := dk_184 0 26 (dk_at dksX0_stays_0 10 rfl rfl)
theorem dX0_stays_13 : decode cX0_stays 13 = .ok (.aload_n 0, 1) := dk_42 (dk_at dksX0_stays_0 13 rfl rfl)
theorem dX0_stays_14 : decode cX0_stays 14 = .ok (.iload 4, 2) := dk_21 4 (dk_at dksX0_stays_0 14 rfl rfl)
theorem dX0_stays_16 : decode cX0_stays 16 = .ok (.iload 4, 2) := dk_21 4 (dk_at dksX0_stays_0 16 rfl rfl)
theorem dX0_stays_18 : decode cX0_stays 18 = .ok (.invokevirtual 67, 3) := dk_182 0 67 (dk_at dksX0_stays_0 18 rfl rfl)
theorem dX0_stays_21 : decode cX0_stays 21 = .ok (.aload_n 0, 1) := dk_42 (dk_at dksX0_stays_0 21 rfl rfl)
theorem dX0_stays_22 : decode cX0_stays 22 = .ok (.invokestatic 33, 3) := dk_184 0 33 (dk_at dksX0_stays_1 0 rfl rfl)
theorem dX0_stays_25 : decode cX0_stays 25 = .ok (.aload 5, 2) := dk_25 5 (dk_at dksX0_stays_1 3 rfl rfl)
theorem dX0_stays_27 : decode cX0_stays 27 = .ok (.invokestatic 71, 3) := dk_184 0 71 (dk_at dksX0_stays_1 5 rfl rfl)
theorem dX0_stays_30 : decode cX0_stays 30 = .ok (.ifCond .eq 36, 3) := dk_153 0 36 (dk_at dksX0_stays_1 8 rfl rfl)
theorem dX0_stays_33 : decode cX0_stays 33 = .ok (.aload_n 0, 1) := dk_42 (dk_at dksX0_stays_1 11 rfl rfl)
theorem dX0_stays_34 : decode cX0_stays 34 = .ok (.invokevirtual 48, 3) := dk_182 0 48 (dk_at dksX0_stays_1 12 rfl rfl)
theorem dX0_stays_37 : decode cX0_stays 37 = .ok (.iconst 3, 1) := dk_6 (dk_at dksX0_stays_1 15 rfl rfl)
theorem dX0_stays_38 : decode cX0_stays 38 = .ok (.iload_n 3, 1) := dk_29 (dk_at dksX0_stays_1 16 rfl rfl)
theorem dX0_stays_39 : decode cX0_stays 39 = .ok (.iconst 3, 1) := dk_6 (dk_at dksX0_stays_1 17 rfl rfl)
theorem dX0_stays_40 : decode cX0_stays 40 = .ok (.iand, 1) := dk_126 (dk_at dksX0_stays_1 18 rfl rfl)
theorem dX0_stays_41 : decode cX0_stays 41 = .ok (.iadd, 1) := dk_96 (dk_at dksX0_stays_1 19 rfl rfl)
theorem dX0_stays_42 : decode cX0_stays 42 = .ok (.if_icmp .ne 24, 3) := dk_160 0 24 (dk_at dksX0_stays_1 20 rfl rfl)
theorem dX0_stays_45 : decode cX0_stays 45 = .ok (.aload_n 0, 1) := dk_42 (dk_at dksX0_stays_1 23 rfl rfl)
theorem dX0_stays_46 : decode cX0_stays 46 = .ok (.iload 4, 2) := dk_21 4 (dk_at dksX0_stays_2 0 rfl rfl)
theorem dX0_stays_48 : decode cX0_stays 48 = .ok (.invokevirtual 22, 3) := dk_182 0 22 (dk_at dksX0_stays_2 2 rfl rfl)
theorem dX0_stays_51 : decode cX0_stays 51 = .ok (.aload 5, 2) := dk_25 5 (dk_at dksX0_stays_2 5 rfl rfl)
theorem dX0_stays_53 : decode cX0_stays 53 = .ok (.iload 4, 2) := dk_21 4 (dk_at dksX0_stays_2 7 rfl rfl)
theorem dX0_stays_55 : decode cX0_stays 55 = .ok (.ldc 74, 2) := dk_18 74 (dk_at dksX0_stays_2 9 rfl rfl)
theorem dX0_stays_57 : decode cX0_stays 57 = .ok (.iand, 1) := dk_126 (dk_at dksX0_stays_2 11 rfl rfl)
theorem dX0_stays_58 : decode cX0_stays 58 = .ok (.sipush 253, 3) := dk_17 0 253 (dk_at dksX0_stays_2 12 rfl rfl)
theorem dX0_stays_61 : decode cX0_stays 61 = .ok (.irem, 1) := dk_112 (dk_at dksX0_stays_2 15 rfl rfl)
theorem dX0_stays_62 : decode cX0_stays 62 = .ok (.iaload, 1) := dk_46 (dk_at dksX0_stays_2 16 rfl rfl)
theorem dX0_stays_63 : decode cX0_stays 63 = .ok (.if_icmp .eq 5, 3) := dk_159 0 5 (dk_at dksX0_stays_2 17 rfl rfl)
theorem dX0_stays_66 : decode cX0_stays 66 = .ok (.iconst 0, 1) := dk_3 (dk_at dksX0_stays_2 20 rfl rfl)
theorem dX0_stays_67 : decode cX0_stays 67 = .ok (.ireturn, 1) := dk_172 (dk_at dksX0_stays_2 21 rfl rfl)
theorem dX0_stays_68 : decode cX0_stays 68 = .ok (.bipush 7, 2) := dk_16 7 (dk_at dksX0_stays_2 22 rfl rfl)
theorem dX0_stays_70 : decode cX0_stays 70 = .ok (.istore 6, 2) := dk_54 6 (dk_at dksX0_stays_3 0 rfl rfl)
theorem dX0_stays_72 : decode cX0_stays 72 = .ok (.iload 6, 2) := dk_21 6 (dk_at dksX0_stays_3 2 rfl rfl)
theorem dX0_stays_74 : decode cX0_stays 74 = .ok (.ifCond .lt 24, 3) := dk_155 0 24 (dk_at dksX0_stays_3 4 rfl rfl)
theorem dX0_stays_77 : decode cX0_stays 77 = .ok (.aload_n 0, 1) := dk_42 (dk_at dksX0_stays_3 7 rfl rfl)
theorem dX0_stays_78 : decode cX0_stays 78 = .ok (.iload 6, 2) := dk_21 6 (dk_at dksX0_stays_3 8 rfl rfl)
theorem dX0_stays_80 : decode cX0_stays 80 = .ok (.iload 4, 2) := dk_21 4 (dk_at dksX0_stays_3 10 rfl rfl)
theorem dX0_stays_82 : decode cX0_stays 82 = .ok (.iconst 3, 1) := dk_6 (dk_at dksX0_stays_3 12 rfl rfl)
theorem dX0_stays_83 : decode cX0_stays 83 = .ok (.ishl, 1) := dk_120 (dk_at dksX0_stays_3 13 rfl rfl)
theorem dX0_stays_84 : decode cX0_stays 84 = .ok (.ior, 1) := dk_128 (dk_at dksX0_stays_3 14 rfl rfl)
theorem dX0_stays_85 : decode cX0_stays 85 = .ok (.aload_n 1, 1) := dk_43 (dk_at dksX0_stays_3 15 rfl rfl)
theorem dX0_stays_86 : decode cX0_stays 86 = .ok (.iload 6, 2) := dk_21 6 (dk_at dksX0_stays_3 16 rfl rfl)
theorem dX0_stays_88 : decode cX0_stays 88 = .ok (.iaload, 1) := dk_46 (dk_at dksX0_stays_3 18 rfl rfl)
theorem dX0_stays_89 : decode cX0_stays 89 = .ok (.invokevirtual 67, 3) := dk_182 0 67 (dk_at dksX0_stays_3 19 rfl rfl)
theorem dX0_stays_92 : decode cX0_stays 92 = .ok (.iinc 6 (-1), 3) := dk_132 6 255 (dk_at dksX0_stays_4 0 rfl rfl)
theorem dX0_stays_95 : decode cX0_stays 95 = .ok (.goto (-23), 3) := dk_167 255 233 (dk_at dksX0_stays_4 3 rfl rfl)
theorem dX0_stays_98 : decode cX0_stays 98 = .ok (.aload_n 0, 1) := dk_42 (dk_at dksX0_stays_4 6 rfl rfl)
theorem dX0_stays_99 : decode cX0_stays 99 = .ok (.iload_n 3, 1) := dk_29 (dk_at dksX0_stays_4 7 rfl rfl)
theorem dX0_stays_100 : decode cX0_stays 100 = .ok (.invokevirtual 29, 3) := dk_182 0 29 (dk_at dksX0_stays_4 8 rfl rfl)
theorem dX0_stays_103 : decode cX0_stays 103 = .ok (.aload_n 0, 1) := dk_42 (dk_at dksX0_stays_4 11 rfl rfl)
theorem dX0_stays_104 : decode cX0_stays 104 = .ok (.invokestatic 33, 3) := dk_184 0 33 (dk_at dksX0_stays_4 12 rfl rfl)
theorem dX0_stays_107 : decode cX0_stays 107 = .ok (.aload 5, 2) := dk_25 5 (dk_at dksX0_stays_4 15 rfl rfl)
theorem dX0_stays_109 : decode cX0_stays 109 = .ok (.invokestatic 71, 3) := dk_184 0 71 (dk_at dksX0_stays_4 17 rfl rfl)
theorem dX0_stays_112 : decode cX0_stays 112 = .ok (.ireturn, 1) := dk_172 (dk_at dksX0_stays_4 20 rfl rfl)
abbrev cX0_same : ByteArray := method_9_code
def yX0_same : MethodName := ⟨RX0, "same", "([I[I)Z"⟩
def dkwX0_same_1 : List UInt8 := [167, 0, 4, 3, 61, 132, 3, 1, 167, 255, 228, 28, 172]
abbrev dktX0_same_1 : List UInt8 := dkwX0_same_1 ++ []
def dkwX0_same_0 : List UInt8 := [4, 61, 3, 62, 29, 42, 190, 162, 0, 28, 28, 153, 0, 24, 42, 29, 46, 43, 29, 46, 160, 0, 7, 4]
abbrev dktX0_same_0 : List UInt8 := dkwX0_same_0 ++ dktX0_same_1
theorem dksX0_same_0 : cX0_same.data.toList.drop 0 = dktX0_same_0 := by decide +kernel
theorem dksX0_same_1 : cX0_same.data.toList.drop 24 = dktX0_same_1 := dk_seg dksX0_same_0 24 rfl rfl
theorem dX0_same_0 : decode cX0_same 0 = .ok (.iconst 1, 1) := dk_4 (dk_at dksX0_same_0 0 rfl rfl)
theorem dX0_same_1 : decode cX0_same 1 = .ok (.istore_n 2, 1) := dk_61 (dk_at dksX0_same_0 1 rfl rfl)
theorem dX0_same_2 : decode cX0_same 2 = .ok (.iconst 0, 1) := dk_3 (dk_at dksX0_same_0 2 rfl rfl)
theorem dX0_same_3 : decode cX0_same 3 = .ok (.istore_n 3, 1) := dk_62 (dk_at dksX0_same_0 3 rfl rfl)
theorem dX0_same_4 : decode cX0_same 4 = .ok (.iload_n 3, 1) := dk_29 (dk_at dksX0_same_0 4 rfl rfl)
theorem dX0_same_5 : decode cX0_same 5 = .ok (.aload_n 0, 1) := dk_42 (dk_at dksX0_same_0 5 rfl rfl)
theorem dX0_same_6 : decode cX0_same 6 = .ok (.arraylength, 1) := dk_190 (dk_at dksX0_same_0 6 rfl rfl)
theorem dX0_same_7 : decode cX0_same 7 = .ok (.if_icmp .ge 28, 3) := dk_162 0 28 (dk_at dksX0_same_0 7 rfl rfl)
theorem dX0_same_10 : decode cX0_same 10 = .ok (.iload_n 2, 1) := dk_28 (dk_at dksX0_same_0 10 rfl rfl)
theorem dX0_same_11 : decode cX0_same 11 = .ok (.ifCond .eq 24, 3) := dk_153 0 24 (dk_at dksX0_same_0 11 rfl rfl)
theorem dX0_same_14 : decode cX0_same 14 = .ok (.aload_n 0, 1) := dk_42 (dk_at dksX0_same_0 14 rfl rfl)
theorem dX0_same_15 : decode cX0_same 15 = .ok (.iload_n 3, 1) := dk_29 (dk_at dksX0_same_0 15 rfl rfl)
theorem dX0_same_16 : decode cX0_same 16 = .ok (.iaload, 1) := dk_46 (dk_at dksX0_same_0 16 rfl rfl)
theorem dX0_same_17 : decode cX0_same 17 = .ok (.aload_n 1, 1) := dk_43 (dk_at dksX0_same_0 17 rfl rfl)
theorem dX0_same_18 : decode cX0_same 18 = .ok (.iload_n 3, 1) := dk_29 (dk_at dksX0_same_0 18 rfl rfl)
theorem dX0_same_19 : decode cX0_same 19 = .ok (.iaload, 1) := dk_46 (dk_at dksX0_same_0 19 rfl rfl)
theorem dX0_same_20 : decode cX0_same 20 = .ok (.if_icmp .ne 7, 3) := dk_160 0 7 (dk_at dksX0_same_0 20 rfl rfl)
theorem dX0_same_23 : decode cX0_same 23 = .ok (.iconst 1, 1) := dk_4 (dk_at dksX0_same_0 23 rfl rfl)
theorem dX0_same_24 : decode cX0_same 24 = .ok (.goto 4, 3) := dk_167 0 4 (dk_at dksX0_same_1 0 rfl rfl)
theorem dX0_same_27 : decode cX0_same 27 = .ok (.iconst 0, 1) := dk_3 (dk_at dksX0_same_1 3 rfl rfl)
theorem dX0_same_28 : decode cX0_same 28 = .ok (.istore_n 2, 1) := dk_61 (dk_at dksX0_same_1 4 rfl rfl)
theorem dX0_same_29 : decode cX0_same 29 = .ok (.iinc 3 1, 3) := dk_132 3 1 (dk_at dksX0_same_1 5 rfl rfl)
theorem dX0_same_32 : decode cX0_same 32 = .ok (.goto (-28), 3) := dk_167 255 228 (dk_at dksX0_same_1 8 rfl rfl)
theorem dX0_same_35 : decode cX0_same 35 = .ok (.iload_n 2, 1) := dk_28 (dk_at dksX0_same_1 11 rfl rfl)
theorem dX0_same_36 : decode cX0_same 36 = .ok (.ireturn, 1) := dk_172 (dk_at dksX0_same_1 12 rfl rfl)
theorem q0 : (Jvm.Cond.initialized "WnafDeskLaw") ∈ lw_all := lw_g (lw_at lw_m0 0 rfl) rfl
theorem q3 : (Jvm.Cond.classLink "WnafDeskLaw" (17 : Nat) "WnafDesk") ∈ lw_all := lw_g (lw_at lw_m0 3 rfl) rfl
theorem q5 : (Jvm.Cond.methodLink "WnafDeskLaw" (75 : Nat) ({ cls := "WnafDesk", name := "<init>", desc := "()V" } : Jvm.MethodName)) ∈ lw_all := lw_g (lw_at lw_m0 5 rfl) rfl
theorem q23 : (Jvm.Cond.methodLink "WnafDeskLaw" (22 : Nat) ({ cls := "WnafDesk", name := "digit", desc := "(I)I" } : Jvm.MethodName)) ∈ lw_all := lw_g (lw_at lw_m0 23 rfl) rfl
theorem q28 : (Jvm.Cond.methodLink "WnafDeskLaw" (48 : Nat) ({ cls := "WnafDesk", name := "width", desc := "()I" } : Jvm.MethodName)) ∈ lw_all := lw_g (lw_at lw_m0 28 rfl) rfl
theorem q32 : (Jvm.Cond.methodLink "WnafDeskLaw" (9 : Nat) ({ cls := "WnafDeskLaw", name := "cell", desc := "([II)I" } : Jvm.MethodName)) ∈ lw_all := lw_g (lw_at lw_m0 32 rfl) rfl
theorem q33 : (Jvm.Cond.static ({ cls := "WnafDeskLaw", name := "cell", desc := "([II)I" } : Jvm.MethodName)) ∈ lw_all := lw_g (lw_at lw_m0 33 rfl) rfl
theorem q34 : (Jvm.Cond.code ({ cls := "WnafDeskLaw", name := "cell", desc := "([II)I" } : Jvm.MethodName) method_2_code (2 : Nat) (Option.some Jvm.ClassFile.FieldType.int)) ∈ lw_all := lw_g (lw_at lw_m0 34 rfl) rfl
theorem q35 : (Jvm.Cond.methodLink "WnafDeskLaw" (76 : Nat) ({ cls := "WnafDeskLaw", name := "number", desc := "([II)[I" } : Jvm.MethodName)) ∈ lw_all := lw_g (lw_at lw_m0 35 rfl) rfl
theorem q36 : (Jvm.Cond.static ({ cls := "WnafDeskLaw", name := "number", desc := "([II)[I" } : Jvm.MethodName)) ∈ lw_all := lw_g (lw_at lw_m0 36 rfl) rfl
theorem q37 : (Jvm.Cond.code ({ cls := "WnafDeskLaw", name := "number", desc := "([II)[I" } : Jvm.MethodName) method_3_code (7 : Nat) (Option.some (Jvm.ClassFile.FieldType.array Jvm.ClassFile.FieldType.int))) ∈ lw_all := lw_g (lw_at lw_m0 37 rfl) rfl
theorem q38 : (Jvm.Cond.constant "WnafDeskLaw" (13 : Nat) (134217727 : Int32)) ∈ lw_all := lw_g (lw_at lw_m0 38 rfl) rfl
theorem q39 : (Jvm.Cond.methodLink "WnafDeskLaw" (63 : Nat) ({ cls := "WnafDeskLaw", name := "sum", desc := "([I[I)[I" } : Jvm.MethodName)) ∈ lw_all := lw_g (lw_at lw_m0 39 rfl) rfl
theorem q40 : (Jvm.Cond.static ({ cls := "WnafDeskLaw", name := "sum", desc := "([I[I)[I" } : Jvm.MethodName)) ∈ lw_all := lw_g (lw_at lw_m0 40 rfl) rfl
theorem q41 : (Jvm.Cond.code ({ cls := "WnafDeskLaw", name := "sum", desc := "([I[I)[I" } : Jvm.MethodName) method_4_code (6 : Nat) (Option.some (Jvm.ClassFile.FieldType.array Jvm.ClassFile.FieldType.int))) ∈ lw_all := lw_g (lw_at lw_m0 41 rfl) rfl
theorem q42 : (Jvm.Cond.constantLong "WnafDeskLaw" (14 : Nat) (4294967295 : Int64)) ∈ lw_all := lw_g (lw_at lw_m0 42 rfl) rfl
theorem q43 : (Jvm.Cond.methodLink "WnafDeskLaw" (33 : Nat) ({ cls := "WnafDeskLaw", name := "row", desc := "(LWnafDesk;)[I" } : Jvm.MethodName)) ∈ lw_all := lw_g (lw_at lw_m0 43 rfl) rfl
theorem q44 : (Jvm.Cond.static ({ cls := "WnafDeskLaw", name := "row", desc := "(LWnafDesk;)[I" } : Jvm.MethodName)) ∈ lw_all := lw_g (lw_at lw_m0 44 rfl) rfl
theorem q45 : (Jvm.Cond.code ({ cls := "WnafDeskLaw", name := "row", desc := "(LWnafDesk;)[I" } : Jvm.MethodName) method_7_code (3 : Nat) (Option.some (Jvm.ClassFile.FieldType.array Jvm.ClassFile.FieldType.int))) ∈ lw_all := lw_g (lw_at lw_m0 45 rfl) rfl
theorem q46 : (Jvm.Cond.methodLink "WnafDeskLaw" (44 : Nat) ({ cls := "WnafDeskLaw", name := "found", desc := "(LWnafDesk;[II)[I" } : Jvm.MethodName)) ∈ lw_all := lw_g (lw_at lw_m0 46 rfl) rfl
theorem q47 : (Jvm.Cond.static ({ cls := "WnafDeskLaw", name := "found", desc := "(LWnafDesk;[II)[I" } : Jvm.MethodName)) ∈ lw_all := lw_g (lw_at lw_m0 47 rfl) rfl
theorem q48 : (Jvm.Cond.code ({ cls := "WnafDeskLaw", name := "found", desc := "(LWnafDesk;[II)[I" } : Jvm.MethodName) method_8_code (3 : Nat) (Option.some (Jvm.ClassFile.FieldType.array Jvm.ClassFile.FieldType.int))) ∈ lw_all := lw_g (lw_at lw_m0 48 rfl) rfl
theorem q49 : (Jvm.Cond.methodLink "WnafDeskLaw" (26 : Nat) ({ cls := "WnafDeskLaw", name := "lay", desc := "(LWnafDesk;[I)V" } : Jvm.MethodName)) ∈ lw_all := lw_g (lw_at lw_m0 49 rfl) rfl
theorem q50 : (Jvm.Cond.static ({ cls := "WnafDeskLaw", name := "lay", desc := "(LWnafDesk;[I)V" } : Jvm.MethodName)) ∈ lw_all := lw_g (lw_at lw_m0 50 rfl) rfl
theorem q51 : (Jvm.Cond.code ({ cls := "WnafDeskLaw", name := "lay", desc := "(LWnafDesk;[I)V" } : Jvm.MethodName) method_6_code (2 : Nat) (Option.none : Option Jvm.ClassFile.FieldType)) ∈ lw_all := lw_g (lw_at lw_m0 51 rfl) rfl
theorem q52 : (Jvm.Cond.methodLink "WnafDeskLaw" (16 : Nat) ({ cls := "WnafDesk", name := "lay", desc := "(IIIII)V" } : Jvm.MethodName)) ∈ lw_all := lw_g (lw_at lw_m0 52 rfl) rfl
theorem q57 : (Jvm.Cond.methodLink "WnafDeskLaw" (29 : Nat) ({ cls := "WnafDesk", name := "find", desc := "(I)V" } : Jvm.MethodName)) ∈ lw_all := lw_g (lw_at lw_m0 57 rfl) rfl
theorem q64 : (Jvm.Cond.methodLink "WnafDeskLaw" (60 : Nat) ({ cls := "WnafDeskLaw", name := "many", desc := "([I)I" } : Jvm.MethodName)) ∈ lw_all := lw_g (lw_at lw_m0 64 rfl) rfl
theorem q65 : (Jvm.Cond.static ({ cls := "WnafDeskLaw", name := "many", desc := "([I)I" } : Jvm.MethodName)) ∈ lw_all := lw_g (lw_at lw_m0 65 rfl) rfl
theorem q66 : (Jvm.Cond.code ({ cls := "WnafDeskLaw", name := "many", desc := "([I)I" } : Jvm.MethodName) method_10_code (6 : Nat) (Option.some Jvm.ClassFile.FieldType.int)) ∈ lw_all := lw_g (lw_at lw_m0 66 rfl) rfl
theorem q67 : (Jvm.Cond.methodLink "WnafDeskLaw" (56 : Nat) ({ cls := "WnafDeskLaw", name := "makes", desc := "([I[I)Z" } : Jvm.MethodName)) ∈ lw_all := lw_g (lw_at lw_m0 67 rfl) rfl
theorem q68 : (Jvm.Cond.static ({ cls := "WnafDeskLaw", name := "makes", desc := "([I[I)Z" } : Jvm.MethodName)) ∈ lw_all := lw_g (lw_at lw_m0 68 rfl) rfl
theorem q69 : (Jvm.Cond.code ({ cls := "WnafDeskLaw", name := "makes", desc := "([I[I)Z" } : Jvm.MethodName) method_12_code (4 : Nat) (Option.some Jvm.ClassFile.FieldType.boolean)) ∈ lw_all := lw_g (lw_at lw_m0 69 rfl) rfl
theorem q70 : (Jvm.Cond.methodLink "WnafDeskLaw" (37 : Nat) ({ cls := "WnafDeskLaw", name := "bit", desc := "([II)I" } : Jvm.MethodName)) ∈ lw_all := lw_g (lw_at lw_m0 70 rfl) rfl
theorem q71 : (Jvm.Cond.static ({ cls := "WnafDeskLaw", name := "bit", desc := "([II)I" } : Jvm.MethodName)) ∈ lw_all := lw_g (lw_at lw_m0 71 rfl) rfl
theorem q72 : (Jvm.Cond.code ({ cls := "WnafDeskLaw", name := "bit", desc := "([II)I" } : Jvm.MethodName) method_5_code (2 : Nat) (Option.some Jvm.ClassFile.FieldType.int)) ∈ lw_all := lw_g (lw_at lw_m0 72 rfl) rfl
theorem q73 : (Jvm.Cond.methodLink "WnafDeskLaw" (52 : Nat) ({ cls := "WnafDeskLaw", name := "isForm", desc := "([II)Z" } : Jvm.MethodName)) ∈ lw_all := lw_g (lw_at lw_m0 73 rfl) rfl
theorem q74 : (Jvm.Cond.static ({ cls := "WnafDeskLaw", name := "isForm", desc := "([II)Z" } : Jvm.MethodName)) ∈ lw_all := lw_g (lw_at lw_m0 74 rfl) rfl
theorem q75 : (Jvm.Cond.code ({ cls := "WnafDeskLaw", name := "isForm", desc := "([II)Z" } : Jvm.MethodName) method_13_code (5 : Nat) (Option.some Jvm.ClassFile.FieldType.boolean)) ∈ lw_all := lw_g (lw_at lw_m0 75 rfl) rfl
theorem q76 : (Jvm.Cond.methodLink "WnafDeskLaw" (80 : Nat) ({ cls := "WnafDeskLaw", name := "widths", desc := "(LWnafDesk;[II)Z" } : Jvm.MethodName)) ∈ lw_all := lw_g (lw_at lw_m0 76 rfl) rfl
theorem q77 : (Jvm.Cond.static ({ cls := "WnafDeskLaw", name := "widths", desc := "(LWnafDesk;[II)Z" } : Jvm.MethodName)) ∈ lw_all := lw_g (lw_at lw_m0 77 rfl) rfl
theorem q78 : (Jvm.Cond.code ({ cls := "WnafDeskLaw", name := "widths", desc := "(LWnafDesk;[II)Z" } : Jvm.MethodName) method_14_code (9 : Nat) (Option.some Jvm.ClassFile.FieldType.boolean)) ∈ lw_all := lw_g (lw_at lw_m0 78 rfl) rfl
theorem q79 : (Jvm.Cond.methodLink "WnafDeskLaw" (40 : Nat) ({ cls := "WnafDeskLaw", name := "ones", desc := "([I)I" } : Jvm.MethodName)) ∈ lw_all := lw_g (lw_at lw_m0 79 rfl) rfl
theorem q80 : (Jvm.Cond.static ({ cls := "WnafDeskLaw", name := "ones", desc := "([I)I" } : Jvm.MethodName)) ∈ lw_all := lw_g (lw_at lw_m0 80 rfl) rfl
theorem q81 : (Jvm.Cond.code ({ cls := "WnafDeskLaw", name := "ones", desc := "([I)I" } : Jvm.MethodName) method_11_code (3 : Nat) (Option.some Jvm.ClassFile.FieldType.int)) ∈ lw_all := lw_g (lw_at lw_m0 81 rfl) rfl
theorem q82 : (Jvm.Cond.methodLink "WnafDeskLaw" (84 : Nat) ({ cls := "WnafDeskLaw", name := "stays", desc := "(LWnafDesk;[I[III)Z" } : Jvm.MethodName)) ∈ lw_all := lw_g (lw_at lw_m0 82 rfl) rfl
theorem q83 : (Jvm.Cond.static ({ cls := "WnafDeskLaw", name := "stays", desc := "(LWnafDesk;[I[III)Z" } : Jvm.MethodName)) ∈ lw_all := lw_g (lw_at lw_m0 83 rfl) rfl
theorem q84 : (Jvm.Cond.code ({ cls := "WnafDeskLaw", name := "stays", desc := "(LWnafDesk;[I[III)Z" } : Jvm.MethodName) method_15_code (7 : Nat) (Option.some Jvm.ClassFile.FieldType.boolean)) ∈ lw_all := lw_g (lw_at lw_m0 84 rfl) rfl
theorem q85 : (Jvm.Cond.methodLink "WnafDeskLaw" (67 : Nat) ({ cls := "WnafDesk", name := "few", desc := "(II)V" } : Jvm.MethodName)) ∈ lw_all := lw_g (lw_at lw_m0 85 rfl) rfl
theorem q89 : (Jvm.Cond.methodLink "WnafDeskLaw" (71 : Nat) ({ cls := "WnafDeskLaw", name := "same", desc := "([I[I)Z" } : Jvm.MethodName)) ∈ lw_all := lw_g (lw_at lw_m0 89 rfl) rfl
theorem q90 : (Jvm.Cond.static ({ cls := "WnafDeskLaw", name := "same", desc := "([I[I)Z" } : Jvm.MethodName)) ∈ lw_all := lw_g (lw_at lw_m0 90 rfl) rfl
theorem q91 : (Jvm.Cond.code ({ cls := "WnafDeskLaw", name := "same", desc := "([I[I)Z" } : Jvm.MethodName) method_9_code (4 : Nat) (Option.some Jvm.ClassFile.FieldType.boolean)) ∈ lw_all := lw_g (lw_at lw_m0 91 rfl) rfl
theorem q92 : (Jvm.Cond.constant "WnafDeskLaw" (74 : Nat) (2147483647 : Int32)) ∈ lw_all := lw_g (lw_at lw_m0 92 rfl) rfl
/-! java/lang/Object -/
set_option maxRecDepth 100000
def RJ0 : String := "java/lang/Object"
abbrev cJ0_init : ByteArray := object_method_1_code
def yJ0_init : MethodName := ⟨RJ0, "<init>", "()V"⟩
theorem dJ0_init_0 : decode cJ0_init 0 = .ok (.return_, 1) := by decide +kernel
theorem q9 : (Jvm.Cond.instanceMethod ({ cls := "java/lang/Object", name := "<init>", desc := "()V" } : Jvm.MethodName)) ∈ lw_all := lw_g (lw_at lw_m0 9 rfl) rfl
theorem q10 : (Jvm.Cond.code ({ cls := "java/lang/Object", name := "<init>", desc := "()V" } : Jvm.MethodName) object_method_1_code (1 : Nat) (Option.none : Option Jvm.ClassFile.FieldType)) ∈ lw_all := lw_g (lw_at lw_m0 10 rfl) rfl
/-! the law's own entry -/
set_option maxRecDepth 100000
abbrev cL_law : ByteArray := code
def dkwL_law_7 : List UInt8 := [45, 21, 5, 184, 0, 44, 184, 0, 60, 96, 163, 0, 7, 4, 167, 0, 4, 3, 172]
abbrev dktL_law_7 : List UInt8 := dkwL_law_7 ++ []
def dkwL_law_6 : List UInt8 := [25, 4, 184, 0, 56, 153, 0, 36, 25, 8, 184, 0, 60, 43, 44, 21, 5, 184, 0, 44, 184, 0, 60, 43]
abbrev dktL_law_6 : List UInt8 := dkwL_law_6 ++ dktL_law_7
def dkwL_law_5 : List UInt8 := [54, 7, 43, 25, 4, 21, 5, 184, 0, 44, 58, 8, 25, 8, 21, 7, 184, 0, 52, 153, 0, 46, 25, 8]
abbrev dktL_law_5 : List UInt8 := dkwL_law_5 ++ dktL_law_6
def dkwL_law_4 : List UInt8 := [153, 0, 16, 43, 44, 45, 21, 5, 21, 6, 184, 0, 84, 154, 0, 5, 3, 172, 6, 21, 5, 6, 126, 96]
abbrev dktL_law_4 : List UInt8 := dkwL_law_4 ++ dktL_law_5
def dkwL_law_3 : List UInt8 := [153, 0, 5, 3, 172, 43, 44, 21, 6, 184, 0, 80, 153, 0, 26, 43, 45, 21, 5, 184, 0, 80]
abbrev dktL_law_3 : List UInt8 := dkwL_law_3 ++ dktL_law_4
def dkwL_law_2 : List UInt8 := [182, 0, 48, 7, 160, 0, 22, 43, 21, 6, 182, 0, 22, 154, 0, 13, 43, 184, 0, 33, 184, 0, 60]
abbrev dktL_law_2 : List UInt8 := dkwL_law_2 ++ dktL_law_3
def dkwL_law_1 : List UInt8 := [184, 0, 63, 58, 4, 42, 16, 18, 184, 0, 9, 54, 5, 42, 16, 19, 184, 0, 9, 54, 6, 43]
abbrev dktL_law_1 : List UInt8 := dkwL_law_1 ++ dktL_law_2
def dkwL_law_0 : List UInt8 := [187, 0, 17, 89, 183, 0, 75, 76, 42, 3, 184, 0, 76, 77, 42, 16, 9, 184, 0, 76, 78, 44, 45]
abbrev dktL_law_0 : List UInt8 := dkwL_law_0 ++ dktL_law_1
theorem dksL_law_0 : cL_law.data.toList.drop 0 = dktL_law_0 := by decide +kernel
theorem dksL_law_1 : cL_law.data.toList.drop 23 = dktL_law_1 := dk_seg dksL_law_0 23 rfl rfl
theorem dksL_law_2 : cL_law.data.toList.drop 45 = dktL_law_2 := dk_seg dksL_law_1 22 rfl rfl
theorem dksL_law_3 : cL_law.data.toList.drop 68 = dktL_law_3 := dk_seg dksL_law_2 23 rfl rfl
theorem dksL_law_4 : cL_law.data.toList.drop 90 = dktL_law_4 := dk_seg dksL_law_3 22 rfl rfl
theorem dksL_law_5 : cL_law.data.toList.drop 114 = dktL_law_5 := dk_seg dksL_law_4 24 rfl rfl
theorem dksL_law_6 : cL_law.data.toList.drop 138 = dktL_law_6 := dk_seg dksL_law_5 24 rfl rfl
theorem dksL_law_7 : cL_law.data.toList.drop 162 = dktL_law_7 := dk_seg dksL_law_6 24 rfl rfl
theorem dL_law_0 : decode cL_law 0 = .ok (.new 17, 3) := dk_187 0 17 (dk_at dksL_law_0 0 rfl rfl)
theorem dL_law_3 : decode cL_law 3 = .ok (.dup, 1) := dk_89 (dk_at dksL_law_0 3 rfl rfl)
theorem dL_law_4 : decode cL_law 4 = .ok (.invokespecial 75, 3) := dk_183 0 75 (dk_at dksL_law_0 4 rfl rfl)
theorem dL_law_7 : decode cL_law 7 = .ok (.astore_n 1, 1) := dk_76 (dk_at dksL_law_0 7 rfl rfl)
theorem dL_law_8 : decode cL_law 8 = .ok (.aload_n 0, 1) := dk_42 (dk_at dksL_law_0 8 rfl rfl)
theorem dL_law_9 : decode cL_law 9 = .ok (.iconst 0, 1) := dk_3 (dk_at dksL_law_0 9 rfl rfl)
theorem dL_law_10 : decode cL_law 10 = .ok (.invokestatic 76, 3) := dk_184 0 76 (dk_at dksL_law_0 10 rfl rfl)
theorem dL_law_13 : decode cL_law 13 = .ok (.astore_n 2, 1) := dk_77 (dk_at dksL_law_0 13 rfl rfl)
theorem dL_law_14 : decode cL_law 14 = .ok (.aload_n 0, 1) := dk_42 (dk_at dksL_law_0 14 rfl rfl)
theorem dL_law_15 : decode cL_law 15 = .ok (.bipush 9, 2) := dk_16 9 (dk_at dksL_law_0 15 rfl rfl)
theorem dL_law_17 : decode cL_law 17 = .ok (.invokestatic 76, 3) := dk_184 0 76 (dk_at dksL_law_0 17 rfl rfl)
theorem dL_law_20 : decode cL_law 20 = .ok (.astore_n 3, 1) := dk_78 (dk_at dksL_law_0 20 rfl rfl)
theorem dL_law_21 : decode cL_law 21 = .ok (.aload_n 2, 1) := dk_44 (dk_at dksL_law_0 21 rfl rfl)
theorem dL_law_22 : decode cL_law 22 = .ok (.aload_n 3, 1) := dk_45 (dk_at dksL_law_0 22 rfl rfl)
theorem dL_law_23 : decode cL_law 23 = .ok (.invokestatic 63, 3) := dk_184 0 63 (dk_at dksL_law_1 0 rfl rfl)
theorem dL_law_26 : decode cL_law 26 = .ok (.astore 4, 2) := dk_58 4 (dk_at dksL_law_1 3 rfl rfl)
theorem dL_law_28 : decode cL_law 28 = .ok (.aload_n 0, 1) := dk_42 (dk_at dksL_law_1 5 rfl rfl)
theorem dL_law_29 : decode cL_law 29 = .ok (.bipush 18, 2) := dk_16 18 (dk_at dksL_law_1 6 rfl rfl)
theorem dL_law_31 : decode cL_law 31 = .ok (.invokestatic 9, 3) := dk_184 0 9 (dk_at dksL_law_1 8 rfl rfl)
theorem dL_law_34 : decode cL_law 34 = .ok (.istore 5, 2) := dk_54 5 (dk_at dksL_law_1 11 rfl rfl)
theorem dL_law_36 : decode cL_law 36 = .ok (.aload_n 0, 1) := dk_42 (dk_at dksL_law_1 13 rfl rfl)
theorem dL_law_37 : decode cL_law 37 = .ok (.bipush 19, 2) := dk_16 19 (dk_at dksL_law_1 14 rfl rfl)
theorem dL_law_39 : decode cL_law 39 = .ok (.invokestatic 9, 3) := dk_184 0 9 (dk_at dksL_law_1 16 rfl rfl)
theorem dL_law_42 : decode cL_law 42 = .ok (.istore 6, 2) := dk_54 6 (dk_at dksL_law_1 19 rfl rfl)
theorem dL_law_44 : decode cL_law 44 = .ok (.aload_n 1, 1) := dk_43 (dk_at dksL_law_1 21 rfl rfl)
theorem dL_law_45 : decode cL_law 45 = .ok (.invokevirtual 48, 3) := dk_182 0 48 (dk_at dksL_law_2 0 rfl rfl)
theorem dL_law_48 : decode cL_law 48 = .ok (.iconst 4, 1) := dk_7 (dk_at dksL_law_2 3 rfl rfl)
theorem dL_law_49 : decode cL_law 49 = .ok (.if_icmp .ne 22, 3) := dk_160 0 22 (dk_at dksL_law_2 4 rfl rfl)
theorem dL_law_52 : decode cL_law 52 = .ok (.aload_n 1, 1) := dk_43 (dk_at dksL_law_2 7 rfl rfl)
theorem dL_law_53 : decode cL_law 53 = .ok (.iload 6, 2) := dk_21 6 (dk_at dksL_law_2 8 rfl rfl)
theorem dL_law_55 : decode cL_law 55 = .ok (.invokevirtual 22, 3) := dk_182 0 22 (dk_at dksL_law_2 10 rfl rfl)
theorem dL_law_58 : decode cL_law 58 = .ok (.ifCond .ne 13, 3) := dk_154 0 13 (dk_at dksL_law_2 13 rfl rfl)
theorem dL_law_61 : decode cL_law 61 = .ok (.aload_n 1, 1) := dk_43 (dk_at dksL_law_2 16 rfl rfl)
theorem dL_law_62 : decode cL_law 62 = .ok (.invokestatic 33, 3) := dk_184 0 33 (dk_at dksL_law_2 17 rfl rfl)
theorem dL_law_65 : decode cL_law 65 = .ok (.invokestatic 60, 3) := dk_184 0 60 (dk_at dksL_law_2 20 rfl rfl)
theorem dL_law_68 : decode cL_law 68 = .ok (.ifCond .eq 5, 3) := dk_153 0 5 (dk_at dksL_law_3 0 rfl rfl)
theorem dL_law_71 : decode cL_law 71 = .ok (.iconst 0, 1) := dk_3 (dk_at dksL_law_3 3 rfl rfl)
theorem dL_law_72 : decode cL_law 72 = .ok (.ireturn, 1) := dk_172 (dk_at dksL_law_3 4 rfl rfl)
theorem dL_law_73 : decode cL_law 73 = .ok (.aload_n 1, 1) := dk_43 (dk_at dksL_law_3 5 rfl rfl)
theorem dL_law_74 : decode cL_law 74 = .ok (.aload_n 2, 1) := dk_44 (dk_at dksL_law_3 6 rfl rfl)
theorem dL_law_75 : decode cL_law 75 = .ok (.iload 6, 2) := dk_21 6 (dk_at dksL_law_3 7 rfl rfl)
theorem dL_law_77 : decode cL_law 77 = .ok (.invokestatic 80, 3) := dk_184 0 80 (dk_at dksL_law_3 9 rfl rfl)
theorem dL_law_80 : decode cL_law 80 = .ok (.ifCond .eq 26, 3) := dk_153 0 26 (dk_at dksL_law_3 12 rfl rfl)
theorem dL_law_83 : decode cL_law 83 = .ok (.aload_n 1, 1) := dk_43 (dk_at dksL_law_3 15 rfl rfl)
theorem dL_law_84 : decode cL_law 84 = .ok (.aload_n 3, 1) := dk_45 (dk_at dksL_law_3 16 rfl rfl)
theorem dL_law_85 : decode cL_law 85 = .ok (.iload 5, 2) := dk_21 5 (dk_at dksL_law_3 17 rfl rfl)
theorem dL_law_87 : decode cL_law 87 = .ok (.invokestatic 80, 3) := dk_184 0 80 (dk_at dksL_law_3 19 rfl rfl)
theorem dL_law_90 : decode cL_law 90 = .ok (.ifCond .eq 16, 3) := dk_153 0 16 (dk_at dksL_law_4 0 rfl rfl)
theorem dL_law_93 : decode cL_law 93 = .ok (.aload_n 1, 1) := dk_43 (dk_at dksL_law_4 3 rfl rfl)
theorem dL_law_94 : decode cL_law 94 = .ok (.aload_n 2, 1) := dk_44 (dk_at dksL_law_4 4 rfl rfl)
theorem dL_law_95 : decode cL_law 95 = .ok (.aload_n 3, 1) := dk_45 (dk_at dksL_law_4 5 rfl rfl)
theorem dL_law_96 : decode cL_law 96 = .ok (.iload 5, 2) := dk_21 5 (dk_at dksL_law_4 6 rfl rfl)
theorem dL_law_98 : decode cL_law 98 = .ok (.iload 6, 2) := dk_21 6 (dk_at dksL_law_4 8 rfl rfl)
theorem dL_law_100 : decode cL_law 100 = .ok (.invokestatic 84, 3) := dk_184 0 84 (dk_at dksL_law_4 10 rfl rfl)
theorem dL_law_103 : decode cL_law 103 = .ok (.ifCond .ne 5, 3) := dk_154 0 5 (dk_at dksL_law_4 13 rfl rfl)
theorem dL_law_106 : decode cL_law 106 = .ok (.iconst 0, 1) := dk_3 (dk_at dksL_law_4 16 rfl rfl)
theorem dL_law_107 : decode cL_law 107 = .ok (.ireturn, 1) := dk_172 (dk_at dksL_law_4 17 rfl rfl)
theorem dL_law_108 : decode cL_law 108 = .ok (.iconst 3, 1) := dk_6 (dk_at dksL_law_4 18 rfl rfl)
theorem dL_law_109 : decode cL_law 109 = .ok (.iload 5, 2) := dk_21 5 (dk_at dksL_law_4 19 rfl rfl)
theorem dL_law_111 : decode cL_law 111 = .ok (.iconst 3, 1) := dk_6 (dk_at dksL_law_4 21 rfl rfl)
theorem dL_law_112 : decode cL_law 112 = .ok (.iand, 1) := dk_126 (dk_at dksL_law_4 22 rfl rfl)
theorem dL_law_113 : decode cL_law 113 = .ok (.iadd, 1) := dk_96 (dk_at dksL_law_4 23 rfl rfl)
theorem dL_law_114 : decode cL_law 114 = .ok (.istore 7, 2) := dk_54 7 (dk_at dksL_law_5 0 rfl rfl)
theorem dL_law_116 : decode cL_law 116 = .ok (.aload_n 1, 1) := dk_43 (dk_at dksL_law_5 2 rfl rfl)
theorem dL_law_117 : decode cL_law 117 = .ok (.aload 4, 2) := dk_25 4 (dk_at dksL_law_5 3 rfl rfl)
theorem dL_law_119 : decode cL_law 119 = .ok (.iload 5, 2) := dk_21 5 (dk_at dksL_law_5 5 rfl rfl)
theorem dL_law_121 : decode cL_law 121 = .ok (.invokestatic 44, 3) := dk_184 0 44 (dk_at dksL_law_5 7 rfl rfl)
theorem dL_law_124 : decode cL_law 124 = .ok (.astore 8, 2) := dk_58 8 (dk_at dksL_law_5 10 rfl rfl)
theorem dL_law_126 : decode cL_law 126 = .ok (.aload 8, 2) := dk_25 8 (dk_at dksL_law_5 12 rfl rfl)
theorem dL_law_128 : decode cL_law 128 = .ok (.iload 7, 2) := dk_21 7 (dk_at dksL_law_5 14 rfl rfl)
theorem dL_law_130 : decode cL_law 130 = .ok (.invokestatic 52, 3) := dk_184 0 52 (dk_at dksL_law_5 16 rfl rfl)
theorem dL_law_133 : decode cL_law 133 = .ok (.ifCond .eq 46, 3) := dk_153 0 46 (dk_at dksL_law_5 19 rfl rfl)
theorem dL_law_136 : decode cL_law 136 = .ok (.aload 8, 2) := dk_25 8 (dk_at dksL_law_5 22 rfl rfl)
theorem dL_law_138 : decode cL_law 138 = .ok (.aload 4, 2) := dk_25 4 (dk_at dksL_law_6 0 rfl rfl)
theorem dL_law_140 : decode cL_law 140 = .ok (.invokestatic 56, 3) := dk_184 0 56 (dk_at dksL_law_6 2 rfl rfl)
theorem dL_law_143 : decode cL_law 143 = .ok (.ifCond .eq 36, 3) := dk_153 0 36 (dk_at dksL_law_6 5 rfl rfl)
theorem dL_law_146 : decode cL_law 146 = .ok (.aload 8, 2) := dk_25 8 (dk_at dksL_law_6 8 rfl rfl)
theorem dL_law_148 : decode cL_law 148 = .ok (.invokestatic 60, 3) := dk_184 0 60 (dk_at dksL_law_6 10 rfl rfl)
theorem dL_law_151 : decode cL_law 151 = .ok (.aload_n 1, 1) := dk_43 (dk_at dksL_law_6 13 rfl rfl)
theorem dL_law_152 : decode cL_law 152 = .ok (.aload_n 2, 1) := dk_44 (dk_at dksL_law_6 14 rfl rfl)
theorem dL_law_153 : decode cL_law 153 = .ok (.iload 5, 2) := dk_21 5 (dk_at dksL_law_6 15 rfl rfl)
theorem dL_law_155 : decode cL_law 155 = .ok (.invokestatic 44, 3) := dk_184 0 44 (dk_at dksL_law_6 17 rfl rfl)
theorem dL_law_158 : decode cL_law 158 = .ok (.invokestatic 60, 3) := dk_184 0 60 (dk_at dksL_law_6 20 rfl rfl)
theorem dL_law_161 : decode cL_law 161 = .ok (.aload_n 1, 1) := dk_43 (dk_at dksL_law_6 23 rfl rfl)
theorem dL_law_162 : decode cL_law 162 = .ok (.aload_n 3, 1) := dk_45 (dk_at dksL_law_7 0 rfl rfl)
theorem dL_law_163 : decode cL_law 163 = .ok (.iload 5, 2) := dk_21 5 (dk_at dksL_law_7 1 rfl rfl)
theorem dL_law_165 : decode cL_law 165 = .ok (.invokestatic 44, 3) := dk_184 0 44 (dk_at dksL_law_7 3 rfl rfl)
theorem dL_law_168 : decode cL_law 168 = .ok (.invokestatic 60, 3) := dk_184 0 60 (dk_at dksL_law_7 6 rfl rfl)
theorem dL_law_171 : decode cL_law 171 = .ok (.iadd, 1) := dk_96 (dk_at dksL_law_7 9 rfl rfl)
theorem dL_law_172 : decode cL_law 172 = .ok (.if_icmp .gt 7, 3) := dk_163 0 7 (dk_at dksL_law_7 10 rfl rfl)
theorem dL_law_175 : decode cL_law 175 = .ok (.iconst 1, 1) := dk_4 (dk_at dksL_law_7 13 rfl rfl)
theorem dL_law_176 : decode cL_law 176 = .ok (.goto 4, 3) := dk_167 0 4 (dk_at dksL_law_7 14 rfl rfl)
theorem dL_law_179 : decode cL_law 179 = .ok (.iconst 0, 1) := dk_3 (dk_at dksL_law_7 17 rfl rfl)
theorem dL_law_180 : decode cL_law 180 = .ok (.ireturn, 1) := dk_172 (dk_at dksL_law_7 18 rfl rfl)
theorem q21 : (Jvm.Cond.arrayClass Jvm.ClassFile.FieldType.int) ∈ lw_all := lw_g (lw_at lw_m0 21 rfl) rfl
set_option maxRecDepth 100000
theorem q22 : (Jvm.Cond.arrayClass Jvm.ClassFile.FieldType.byte) ∈ lw_all := lw_g (lw_at lw_m0 22 rfl) rfl
end
section
/-! THE PLAIN LAW: the signed windows of an integer, place by place; no program in sight. w: the width (3..6), n: the number, f: how many places -/
def wn_ok (w : Nat) : Prop := w = 3 ∨ w = 4 ∨ w = 5 ∨ w = 6
/-- the digit at the lowest place -/
def wn_md (w : Nat) (n : Int) : Int := if n % 2 = 0 then 0 else if n % 2 ^ w < 2 ^ (w - 1) then n % 2 ^ w else n % 2 ^ w - 2 ^ w
/-- what is left, one place up -/
def wn_nx (w : Nat) (n : Int) : Int := (n - wn_md w n) / 2
def wn_st (w : Nat) (n : Int) : Nat → Int
  | 0 => n
  | i + 1 => wn_nx w (wn_st w n i)
/-- the digit at place i -/
def wn_dg (w : Nat) (n : Int) (i : Nat) : Int := wn_md w (wn_st w n i)
/-- how many of the first f digits are not 0 -/
def wn_wt (w : Nat) : Nat → Int → Nat
  | 0, _ => 0
  | f + 1, n => (if n % 2 = 0 then 0 else 1) + wn_wt w f (wn_nx w n)
theorem wn_lits {w : Nat} (hw : wn_ok w) : ∃ q h : Int, (2 : Int) ^ w = q ∧ (2 : Int) ^ (w - 1) = h ∧ ((q = 8 ∧ h = 4) ∨ (q = 16 ∧ h = 8) ∨ (q = 32 ∧ h = 16) ∨ (q = 64 ∧ h = 32)) := by
  rcases hw with rfl | rfl | rfl | rfl
  · exact ⟨8, 4, by decide, by decide, Or.inl ⟨rfl, rfl⟩⟩
  · exact ⟨16, 8, by decide, by decide, Or.inr (Or.inl ⟨rfl, rfl⟩)⟩
  · exact ⟨32, 16, by decide, by decide, Or.inr (Or.inr (Or.inl ⟨rfl, rfl⟩))⟩
  · exact ⟨64, 32, by decide, by decide, Or.inr (Or.inr (Or.inr ⟨rfl, rfl⟩))⟩
theorem wn_even {w : Nat} {n : Int} (h : n % 2 = 0) : wn_md w n = 0 ∧ wn_nx w n = n / 2 := by
  have e : wn_md w n = 0 := by unfold wn_md; rw [if_pos h]
  exact ⟨e, by unfold wn_nx; rw [e, Int.sub_zero]⟩
theorem wn_odd {w : Nat} (hw : wn_ok w) {n : Int} (h0 : n % 2 = 1) : ∃ m : Int, n = wn_md w n + 2 ^ w * m ∧ wn_nx w n = 2 ^ (w - 1) * m ∧ wn_md w n % 2 = 1 ∧ -(2 ^ (w - 1)) < wn_md w n ∧ wn_md w n < 2 ^ (w - 1) := by
  obtain ⟨q, h, hq, hh, c⟩ := wn_lits hw
  have h1 : ¬ n % 2 = 0 := by omega
  have e : wn_md w n = if n % q < h then n % q else n % q - q := by
    unfold wn_md
    rw [if_neg h1, hq, hh]
  unfold wn_nx
  rw [hq, hh]
  by_cases d : n % q < h
  · rw [if_pos d] at e
    rw [e]
    rcases c with ⟨rfl, rfl⟩ | ⟨rfl, rfl⟩ | ⟨rfl, rfl⟩ | ⟨rfl, rfl⟩
    · exact ⟨n / 8, by omega, by omega, by omega, by omega, by omega⟩
    · exact ⟨n / 16, by omega, by omega, by omega, by omega, by omega⟩
    · exact ⟨n / 32, by omega, by omega, by omega, by omega, by omega⟩
    · exact ⟨n / 64, by omega, by omega, by omega, by omega, by omega⟩
  · rw [if_neg d] at e
    rw [e]
    rcases c with ⟨rfl, rfl⟩ | ⟨rfl, rfl⟩ | ⟨rfl, rfl⟩ | ⟨rfl, rfl⟩
    · exact ⟨n / 8 + 1, by omega, by omega, by omega, by omega, by omega⟩
    · exact ⟨n / 16 + 1, by omega, by omega, by omega, by omega, by omega⟩
    · exact ⟨n / 32 + 1, by omega, by omega, by omega, by omega, by omega⟩
    · exact ⟨n / 64 + 1, by omega, by omega, by omega, by omega, by omega⟩
theorem wn_wt_even {w f : Nat} {n : Int} (h : n % 2 = 0) : wn_wt w (f + 1) n = wn_wt w f (n / 2) := by
  show (if n % 2 = 0 then 0 else 1) + wn_wt w f (wn_nx w n) = _
  rw [if_pos h, (wn_even h).2, Nat.zero_add]
theorem wn_dbl (k : Nat) (m : Int) : (2 : Int) ^ (k + 1) * m = 2 * (2 ^ k * m) := by
  rw [Int.pow_succ', Int.mul_assoc]
theorem wn_dbl0 (x : Int) : (2 * x) % 2 = 0 := Int.mul_emod_right 2 x
theorem wn_dbl1 (x : Int) : (2 * x) / 2 = x := Int.mul_ediv_cancel_left x (by decide)
theorem wn_wt_shift {w : Nat} (m : Int) : ∀ k f : Nat, wn_wt w f (2 ^ k * m) = wn_wt w (f - k) m := by
  intro k
  induction k with
  | zero => intro f; rw [Int.pow_zero, Int.one_mul, Nat.sub_zero]
  | succ k ih =>
    intro f
    cases f with
    | zero => simp [wn_wt]
    | succ f => rw [wn_dbl, wn_wt_even (wn_dbl0 _), wn_dbl1, ih f, Nat.add_sub_add_right]
theorem wn_wt_odd {w f : Nat} {n m : Int} (h0 : n % 2 = 1) (hm : wn_nx w n = 2 ^ (w - 1) * m) : wn_wt w (f + 1) n = 1 + wn_wt w (f - (w - 1)) m := by
  show (if n % 2 = 0 then 0 else 1) + wn_wt w f (wn_nx w n) = _
  rw [if_neg (by omega), hm, wn_wt_shift]
/-- one digit at one place -/
def wn_tm (w : Nat) (t : Int) : Prop := ∃ (c : Int) (i : Nat), t = c * 2 ^ i ∧ -(2 ^ (w - 1)) < c ∧ c < 2 ^ (w - 1)
theorem wn_tm_small {w : Nat} {c : Int} (h1 : -(2 ^ (w - 1)) < c) (h2 : c < 2 ^ (w - 1)) : wn_tm w c := ⟨c, 0, by rw [Int.pow_zero, Int.mul_one], h1, h2⟩
theorem wn_tm_succ (c : Int) (i : Nat) : c * 2 ^ (i + 1) = 2 * (c * 2 ^ i) := by
  rw [Int.pow_succ', Int.mul_left_comm]
theorem wn_tm_half {w : Nat} {t : Int} (h : wn_tm w t) (he : t % 2 = 0) : wn_tm w (t / 2) := by
  obtain ⟨c, i, rfl, h1, h2⟩ := h
  cases i with
  | zero =>
    rw [Int.pow_zero, Int.mul_one] at he ⊢
    refine ⟨c / 2, 0, by rw [Int.pow_zero, Int.mul_one], ?_, ?_⟩
    · omega
    · omega
  | succ i =>
    rw [wn_tm_succ, wn_dbl1]
    exact ⟨c, i, rfl, h1, h2⟩
theorem wn_tm_odd {w : Nat} {t : Int} (h : wn_tm w t) (ho : t % 2 = 1) : -(2 ^ (w - 1)) < t ∧ t < 2 ^ (w - 1) := by
  obtain ⟨c, i, rfl, h1, h2⟩ := h
  cases i with
  | zero =>
    rw [Int.pow_zero, Int.mul_one]
    exact ⟨h1, h2⟩
  | succ i =>
    rw [wn_tm_succ, wn_dbl0] at ho
    exact absurd ho (by decide)
theorem wn_pow_mono {i k : Nat} (h : i ≤ k) : (2 : Int) ^ i ≤ 2 ^ k := by
  have h1 : (2 : Nat) ^ i ≤ 2 ^ k := Nat.pow_le_pow_right (by decide) h
  exact_mod_cast h1
/-- a term is a multiple of 2^w, or not great -/
theorem wn_tm_q {w : Nat} (hw : wn_ok w) {t : Int} (h : wn_tm w t) : (∃ t' : Int, t = 2 ^ w * t' ∧ wn_tm w t') ∨ (-((2 ^ (w - 1) - 1) * 2 ^ (w - 1)) ≤ t ∧ t ≤ (2 ^ (w - 1) - 1) * 2 ^ (w - 1)) := by
  obtain ⟨c, i, rfl, h1, h2⟩ := h
  rcases Nat.lt_or_ge i w with hi | hi
  · right
    have p : (2 : Int) ^ i ≤ 2 ^ (w - 1) := wn_pow_mono (by omega)
    have p0 : (0 : Int) < 2 ^ i := Int.pow_pos (by decide)
    generalize (2 : Int) ^ (w - 1) = P at h1 h2 p ⊢
    generalize (2 : Int) ^ i = x at p p0 ⊢
    have u1 : c * x ≤ (P - 1) * x := Int.mul_le_mul_of_nonneg_right (by omega) (by omega)
    have u2 : (-(P - 1)) * x ≤ c * x := Int.mul_le_mul_of_nonneg_right (by omega) (by omega)
    have u3 : (P - 1) * x ≤ (P - 1) * P := Int.mul_le_mul_of_nonneg_left p (by omega)
    rw [Int.neg_mul] at u2
    generalize (P - 1) * x = y at u1 u2 u3
    generalize (P - 1) * P = z at u3 ⊢
    generalize c * x = v at u1 u2 ⊢
    omega
  · left
    refine ⟨c * 2 ^ (i - w), ?_, c, i - w, rfl, h1, h2⟩
    have e : (2 : Int) ^ i = 2 ^ w * 2 ^ (i - w) := by rw [← Int.pow_add, Nat.add_sub_cancel' hi]
    rw [e, Int.mul_left_comm]
/-- what stands above the first k places has no more digits (given the law of one term at smaller numbers of places) -/
theorem wn_high {w f : Nat} (hw : wn_ok w) (ih : ∀ g, g ≤ f → ∀ n n' : Int, wn_tm w (n - n') → wn_wt w g n ≤ wn_wt w g n' + 1) :
    ∀ k, k ≤ w - 1 → ∀ g, g ≤ f → ∀ m e : Int, -(2 ^ k) < e → e < 2 ^ k → wn_wt w (g - k) m ≤ wn_wt w g (2 ^ k * m + e) := by
  intro k
  induction k with
  | zero =>
    intro _ g _ m e h1 h2
    rw [Int.pow_zero] at h1 h2
    have e0 : e = 0 := by omega
    rw [e0, Int.pow_zero, Int.one_mul, Int.add_zero, Nat.sub_zero]
    exact Nat.le_refl _
  | succ k ihk =>
    intro hk g hg m e h1 h2
    cases g with
    | zero => simp [wn_wt]
    | succ g =>
      rw [Nat.add_sub_add_right]
      have hx : (2 : Int) ^ (k + 1) * m + e = 2 * (2 ^ k * m) + e := by rw [wn_dbl]
      have hp : (2 : Int) ^ (k + 1) = 2 * 2 ^ k := Int.pow_succ' 2 k
      rw [hp] at h1 h2
      rcases Int.emod_two_eq e with he | he
      · have hx2 : (2 * (2 ^ k * m) + e) % 2 = 0 := by omega
        have hx3 : (2 * (2 ^ k * m) + e) / 2 = 2 ^ k * m + e / 2 := by omega
        rw [hx, wn_wt_even hx2, hx3]
        exact ihk (by omega) g (by omega) m (e / 2) (by omega) (by omega)
      · have hx2 : (2 ^ (k + 1) * m + e) % 2 = 1 := by rw [hx]; omega
        obtain ⟨q, hq, hn, -, r1, r2⟩ := wn_odd hw hx2
        rw [wn_wt_odd hx2 hn]
        generalize wn_md w (2 ^ (k + 1) * m + e) = r at hq r1 r2
        have hwk : w = (k + 1) + (w - 1 - k) := by omega
        have hc : 2 ^ (k + 1) * (m - 2 ^ (w - 1 - k) * q) = r - e := by
          have e1 : (2 : Int) ^ w = 2 ^ (k + 1) * 2 ^ (w - 1 - k) := by rw [← Int.pow_add, ← hwk]
          rw [Int.mul_sub, ← Int.mul_assoc, ← e1]
          omega
        have ht : wn_tm w (m - 2 ^ (w - 1 - k) * q) := by
          have p1 : (2 : Int) * 2 ^ k ≤ 2 ^ (w - 1) := by rw [← hp]; exact wn_pow_mono hk
          have p0 : (0 : Int) < 2 ^ k := Int.pow_pos (by decide)
          rw [hp] at hc
          refine wn_tm_small ?_ ?_
          · generalize m - 2 ^ (w - 1 - k) * q = x at hc ⊢
            generalize (2 : Int) ^ (w - 1) = P at r1 r2 p1 ⊢
            generalize (2 : Int) ^ k = y at hc h1 h2 p1 p0
            refine Int.not_le.mp fun hcon => ?_
            have u1 : (2 * y) * x ≤ (2 * y) * (-P) := Int.mul_le_mul_of_nonneg_left hcon (by omega)
            have u2 : y * 1 ≤ y * P := Int.mul_le_mul_of_nonneg_left (by omega) (by omega)
            have u3 : 1 * P ≤ y * P := Int.mul_le_mul_of_nonneg_right (by omega) (by omega)
            rw [Int.mul_neg, Int.mul_assoc] at u1
            rw [Int.mul_assoc] at hc u1
            generalize y * P = a at u1 u2 u3
            generalize y * x = b at u1 hc
            omega
          · generalize m - 2 ^ (w - 1 - k) * q = x at hc ⊢
            generalize (2 : Int) ^ (w - 1) = P at r1 r2 p1 ⊢
            generalize (2 : Int) ^ k = y at hc h1 h2 p1 p0
            refine Int.not_le.mp fun hcon => ?_
            have u1 : (2 * y) * P ≤ (2 * y) * x := Int.mul_le_mul_of_nonneg_left hcon (by omega)
            have u2 : y * 1 ≤ y * P := Int.mul_le_mul_of_nonneg_left (by omega) (by omega)
            have u3 : 1 * P ≤ y * P := Int.mul_le_mul_of_nonneg_right (by omega) (by omega)
            rw [Int.mul_assoc, Int.mul_assoc] at u1
            rw [Int.mul_assoc] at hc
            generalize y * P = a at u1 u2 u3
            generalize y * x = b at u1 hc
            omega
        have h3 := ih (g - k) (by omega) _ _ ht
        rw [wn_wt_shift] at h3
        have e4 : g - k - (w - 1 - k) = g - (w - 1) := by omega
        rw [e4] at h3
        omega
/-- THE LAW OF ONE TERM: a term more, and at most one digit more -/
theorem wn_main {w : Nat} (hw : wn_ok w) : ∀ f, ∀ g, g ≤ f → ∀ n n' : Int, wn_tm w (n - n') → wn_wt w g n ≤ wn_wt w g n' + 1 := by
  intro f
  induction f with
  | zero =>
    intro g hg n n' _
    have : g = 0 := by omega
    subst this
    simp [wn_wt]
  | succ f ih =>
    intro g hg n n' ht
    rcases Nat.lt_or_ge g (f + 1) with hgf | hgf
    · exact ih g (by omega) n n' ht
    have hge : g = f + 1 := by omega
    subst hge
    have hlits := wn_lits hw
    rcases Int.emod_two_eq n with hn | hn <;> rcases Int.emod_two_eq n' with hn' | hn'
    · rw [wn_wt_even hn, wn_wt_even hn']
      have h1 := wn_tm_half ht (by omega)
      have e : (n - n') / 2 = n / 2 - n' / 2 := by omega
      rw [e] at h1
      exact ih f (Nat.le_refl _) _ _ h1
    · obtain ⟨m, hm, hnx, -, r1, r2⟩ := wn_odd hw hn'
      obtain ⟨t1, t2⟩ := wn_tm_odd ht (by omega)
      rw [wn_wt_even hn, wn_wt_odd hn' hnx]
      have h1 : wn_tm w (n / 2 - 2 ^ (w - 1) * m) := by
        obtain ⟨q, h, hq, hh, c⟩ := hlits
        refine wn_tm_small ?_ ?_
        · rw [hq] at hm
          rw [hh] at r1 r2 t1 t2 ⊢
          rcases c with ⟨rfl, rfl⟩ | ⟨rfl, rfl⟩ | ⟨rfl, rfl⟩ | ⟨rfl, rfl⟩ <;> omega
        · rw [hq] at hm
          rw [hh] at r1 r2 t1 t2 ⊢
          rcases c with ⟨rfl, rfl⟩ | ⟨rfl, rfl⟩ | ⟨rfl, rfl⟩ | ⟨rfl, rfl⟩ <;> omega
      have h2 := ih f (Nat.le_refl _) _ _ h1
      rw [wn_wt_shift] at h2
      omega
    · obtain ⟨m, hm, hnx, -, r1, r2⟩ := wn_odd hw hn
      obtain ⟨t1, t2⟩ := wn_tm_odd ht (by omega)
      rw [wn_wt_even hn', wn_wt_odd hn hnx]
      have e : n' / 2 = 2 ^ (w - 1) * m + (n' / 2 - 2 ^ (w - 1) * m) := by omega
      have h1 : -(2 ^ (w - 1)) < n' / 2 - 2 ^ (w - 1) * m ∧ n' / 2 - 2 ^ (w - 1) * m < 2 ^ (w - 1) := by
        obtain ⟨q, h, hq, hh, c⟩ := hlits
        rw [hq] at hm
        rw [hh] at r1 r2 t1 t2 ⊢
        rcases c with ⟨rfl, rfl⟩ | ⟨rfl, rfl⟩ | ⟨rfl, rfl⟩ | ⟨rfl, rfl⟩ <;> omega
      have h2 := wn_high hw ih (w - 1) (Nat.le_refl _) f (Nat.le_refl _) m _ h1.1 h1.2
      rw [← e] at h2
      omega
    · obtain ⟨m, hm, hnx, -, r1, r2⟩ := wn_odd hw hn
      obtain ⟨m', hm', hnx', -, r1', r2'⟩ := wn_odd hw hn'
      rw [wn_wt_odd hn hnx, wn_wt_odd hn' hnx']
      have h1 : wn_tm w (m - m') := by
        obtain ⟨q, h, hq, hh, c⟩ := hlits
        rcases wn_tm_q hw ht with ⟨t', e, ht'⟩ | ⟨b1, b2⟩
        · have e2 : m - m' = t' := by
            rw [hq] at hm hm' e
            rw [hh] at r1 r2 r1' r2'
            rcases c with ⟨rfl, rfl⟩ | ⟨rfl, rfl⟩ | ⟨rfl, rfl⟩ | ⟨rfl, rfl⟩ <;> omega
          rw [e2]
          exact ht'
        · rw [hq] at hm hm'
          rw [hh] at r1 r2 r1' r2' b1 b2
          refine wn_tm_small ?_ ?_
          · rw [hh]
            rcases c with ⟨rfl, rfl⟩ | ⟨rfl, rfl⟩ | ⟨rfl, rfl⟩ | ⟨rfl, rfl⟩ <;> omega
          · rw [hh]
            rcases c with ⟨rfl, rfl⟩ | ⟨rfl, rfl⟩ | ⟨rfl, rfl⟩ | ⟨rfl, rfl⟩ <;> omega
      have h2 := ih (f - (w - 1)) (by omega) _ _ h1
      omega
theorem wn_one {w : Nat} (hw : wn_ok w) (f : Nat) {n n' : Int} (ht : wn_tm w (n - n')) : wn_wt w f n ≤ wn_wt w f n' + 1 := wn_main hw f f (Nat.le_refl f) n n' ht
/-- an odd number is a multiple of 2^w and one term -/
theorem wn_split {w : Nat} (hw : wn_ok w) {n : Int} (h0 : n % 2 = 1) : ∃ r m : Int, n = r + 2 ^ w * m ∧ wn_tm w r ∧ (∀ f, wn_wt w (f + 1) n = 1 + wn_wt w (f - (w - 1)) m) ∧ (∀ f, wn_wt w (f + 1) (2 ^ w * m) = wn_wt w (f - (w - 1)) m) := by
  obtain ⟨m, hm, hnx, -, r1, r2⟩ := wn_odd hw h0
  refine ⟨_, m, hm, wn_tm_small r1 r2, fun f => wn_wt_odd h0 hnx, fun f => ?_⟩
  rw [wn_wt_shift]
  have : f + 1 - w = f - (w - 1) := by
    rcases hw with rfl | rfl | rfl | rfl <;> omega
  rw [this]
theorem wn_pow_even {w : Nat} (hw : wn_ok w) (m : Int) : (2 ^ w * m) % 2 = 0 := by
  have : w = (w - 1) + 1 := by rcases hw with rfl | rfl | rfl | rfl <;> omega
  rw [this, wn_dbl]
  exact wn_dbl0 _
/-- THE SUM has at most the digits of both -/
theorem wn_sum {w : Nat} (hw : wn_ok w) : ∀ f (n m : Int), wn_wt w f (n + m) ≤ wn_wt w f n + wn_wt w f m := by
  intro f
  induction f with
  | zero => intro n m; simp [wn_wt]
  | succ f ih =>
    have ee : ∀ n m : Int, n % 2 = 0 → m % 2 = 0 → wn_wt w (f + 1) (n + m) ≤ wn_wt w (f + 1) n + wn_wt w (f + 1) m := by
      intro n m hn hm
      rw [wn_wt_even hn, wn_wt_even hm, wn_wt_even (show (n + m) % 2 = 0 by omega), show (n + m) / 2 = n / 2 + m / 2 by omega]
      exact ih _ _
    have ea : ∀ n m : Int, n % 2 = 0 → wn_wt w (f + 1) (n + m) ≤ wn_wt w (f + 1) n + wn_wt w (f + 1) m := by
      intro n m hn
      rcases Int.emod_two_eq m with hm | hm
      · exact ee n m hn hm
      · obtain ⟨r, q, e, ht, h1, h2⟩ := wn_split hw hm
        have h3 := ee n (2 ^ w * q) hn (wn_pow_even hw q)
        have h4 := wn_one hw (f + 1) (n := n + m) (n' := n + 2 ^ w * q) (by rw [show n + m - (n + 2 ^ w * q) = r by omega]; exact ht)
        rw [h2] at h3
        rw [h1]
        omega
    intro n m
    rcases Int.emod_two_eq n with hn | hn
    · exact ea n m hn
    · obtain ⟨r, q, e, ht, h1, h2⟩ := wn_split hw hn
      have h3 := ea (2 ^ w * q) m (wn_pow_even hw q)
      have h4 := wn_one hw (f + 1) (n := n + m) (n' := 2 ^ w * q + m) (by rw [show n + m - (2 ^ w * q + m) = r by omega]; exact ht)
      rw [h2] at h3
      rw [h1]
      omega
/-- A WIDER WINDOW has at most the digits of a narrower one -/
theorem wn_wide {w v : Nat} (hw : wn_ok w) (hv : wn_ok v) (h : w ≤ v) : ∀ f, ∀ g, g ≤ f → ∀ n : Int, wn_wt v g n ≤ wn_wt w g n := by
  intro f
  induction f with
  | zero =>
    intro g hg n
    have : g = 0 := by omega
    subst this
    simp [wn_wt]
  | succ f ih =>
    intro g hg n
    cases g with
    | zero => simp [wn_wt]
    | succ g =>
      rcases Int.emod_two_eq n with hn | hn
      · rw [wn_wt_even hn, wn_wt_even hn]
        exact ih g (by omega) _
      · obtain ⟨r, q, e, ht, h1, h2⟩ := wn_split hw hn
        have ht' : wn_tm v r := by
          obtain ⟨c, i, e, h1, h2⟩ := ht
          have p : (2 : Int) ^ (w - 1) ≤ 2 ^ (v - 1) := wn_pow_mono (by omega)
          exact ⟨c, i, e, by omega, by omega⟩
        have h4 := wn_one hv (g + 1) (n := n) (n' := 2 ^ w * q) (by rw [show n - 2 ^ w * q = r by omega]; exact ht')
        have h5 : wn_wt v (g + 1) (2 ^ w * q) ≤ wn_wt w (g + 1) (2 ^ w * q) := by
          rw [wn_wt_even (wn_pow_even hw q), wn_wt_even (wn_pow_even hw q)]
          exact ih g (by omega) _
        rw [h2] at h5
        rw [h1]
        omega
/-- the ones of the first f places -/
def wn_pc : Nat → Int → Nat
  | 0, _ => 0
  | f + 1, n => (if n % 2 = 0 then 0 else 1) + wn_pc f (n / 2)
/-- .. and no window has more digits than the number has ones -/
theorem wn_ones {w : Nat} (hw : wn_ok w) : ∀ f (n : Int), wn_wt w f n ≤ wn_pc f n := by
  intro f
  induction f with
  | zero => intro n; simp [wn_wt]
  | succ f ih =>
    intro n
    show _ ≤ (if n % 2 = 0 then 0 else 1) + wn_pc f (n / 2)
    rcases Int.emod_two_eq n with hn | hn
    · rw [wn_wt_even hn, if_pos hn]
      have := ih (n / 2)
      omega
    · rw [if_neg (by omega)]
      have h1 : wn_tm w (n - (n - 1)) := by
        rw [show n - (n - 1) = 1 by omega]
        obtain ⟨q, h, hq, hh, c⟩ := wn_lits hw
        refine wn_tm_small ?_ ?_
        · rw [hh]; omega
        · rw [hh]; omega
      have h2 := wn_one hw (f + 1) h1
      rw [wn_wt_even (show (n - 1) % 2 = 0 by omega), show (n - 1) / 2 = n / 2 by omega] at h2
      have := ih (n / 2)
      omega
end
section
/-! the digits of a number: bounds, gaps, counts, the doubled number -/
theorem wn_cp (k : Nat) : ((2 ^ k : Nat) : Int) = (2 : Int) ^ k := Int.natCast_pow 2 k
theorem wn_le2 {N k : Nat} (h : N < 2 ^ k) : (N : Int) ≤ 2 ^ k := by
  have h1 : (N : Int) < ((2 ^ k : Nat) : Int) := Int.ofNat_lt.mpr h
  rw [wn_cp] at h1
  exact Int.le_of_lt h1
theorem wn_nx0 (w : Nat) : wn_nx w 0 = 0 := by
  rw [(wn_even (w := w) (n := 0) (by decide)).2]
  decide
theorem wn_nx_le {w : Nat} (hw : wn_ok w) {n : Int} {k : Nat} (h0 : 0 ≤ n) (h : n ≤ 2 ^ (k + 1)) : 0 ≤ wn_nx w n ∧ wn_nx w n ≤ 2 ^ k := by
  have hp : (2 : Int) ^ (k + 1) = 2 * 2 ^ k := Int.pow_succ' 2 k
  have hp0 : (0 : Int) < 2 ^ k := Int.pow_pos (by decide)
  rw [hp] at h
  rcases Int.emod_two_eq n with hn | hn
  · rw [(wn_even hn).2]
    omega
  · obtain ⟨m, hm, hnx, -, r1, r2⟩ := wn_odd hw hn
    rw [hnx]
    obtain ⟨q, g, hq, hg, c⟩ := wn_lits hw
    rcases Nat.lt_or_ge (k + 1) w with hk | hk
    · have h1 : (2 : Int) ^ (k + 1) ≤ 2 ^ (w - 1) := wn_pow_mono (by omega)
      rw [hp] at h1
      rw [hq] at hm
      rw [hg] at h1 r1 r2 ⊢
      have m0 : m = 0 := by
        rcases c with ⟨rfl, rfl⟩ | ⟨rfl, rfl⟩ | ⟨rfl, rfl⟩ | ⟨rfl, rfl⟩ <;> omega
      rw [m0, Int.mul_zero]
      omega
    · have h1 : (2 : Int) ^ k = 2 ^ (w - 1) * 2 ^ (k + 1 - w) := by
        rw [← Int.pow_add]
        congr 1
        rcases hw with rfl | rfl | rfl | rfl <;> omega
      rw [hq] at hm
      rw [h1] at h ⊢
      rw [hg] at h r1 r2 ⊢
      generalize (2 : Int) ^ (k + 1 - w) = x at h ⊢
      rcases c with ⟨rfl, rfl⟩ | ⟨rfl, rfl⟩ | ⟨rfl, rfl⟩ | ⟨rfl, rfl⟩ <;> omega
theorem wn_st_le {w : Nat} (hw : wn_ok w) {n : Int} {k : Nat} (h0 : 0 ≤ n) (h : n ≤ 2 ^ k) : ∀ i, i ≤ k → 0 ≤ wn_st w n i ∧ wn_st w n i ≤ 2 ^ (k - i) := by
  intro i
  induction i with
  | zero => intro _; exact ⟨h0, h⟩
  | succ i ih =>
    intro hi
    obtain ⟨a, b⟩ := ih (by omega)
    have e : k - i = (k - (i + 1)) + 1 := by omega
    rw [e] at b
    exact wn_nx_le hw a b
theorem wn_st_zero {w : Nat} (hw : wn_ok w) {n : Int} {k : Nat} (h0 : 0 ≤ n) (h : n ≤ 2 ^ k) : ∀ i, k < i → wn_st w n i = 0 := by
  intro i
  induction i with
  | zero => intro hi; exact absurd hi (Nat.not_lt_zero k)
  | succ i ih =>
    intro hi
    show wn_nx w (wn_st w n i) = 0
    rcases Nat.lt_or_ge k i with hk | hk
    · rw [ih hk, wn_nx0]
    · have e : i = k := by omega
      subst e
      obtain ⟨a, b⟩ := wn_st_le hw h0 h i (Nat.le_refl i)
      rw [Nat.sub_self, Int.pow_zero] at b
      generalize wn_st w n i = x at a b
      rcases Int.emod_two_eq x with hx | hx
      · rw [(wn_even hx).2]
        omega
      · have x1 : x = 1 := by omega
        subst x1
        obtain ⟨m, hm, hnx, -, r1, r2⟩ := wn_odd hw hx
        obtain ⟨q, g, hq, hg, c⟩ := wn_lits hw
        rw [hnx]
        rw [hq] at hm
        rw [hg] at r1 r2 ⊢
        have m0 : m = 0 := by
          rcases c with ⟨rfl, rfl⟩ | ⟨rfl, rfl⟩ | ⟨rfl, rfl⟩ | ⟨rfl, rfl⟩ <;> omega
        rw [m0, Int.mul_zero]
theorem wn_dg_of0 {w : Nat} {n : Int} {i : Nat} (h : wn_st w n i = 0) : wn_dg w n i = 0 := by
  unfold wn_dg
  rw [h]
  exact (wn_even (by decide)).1
/-- a digit is 0, where what stands there is even, or odd and small -/
theorem wn_dg_cases {w : Nat} (hw : wn_ok w) (n : Int) (i : Nat) : (wn_st w n i % 2 = 0 ∧ wn_dg w n i = 0) ∨ (wn_st w n i % 2 = 1 ∧ wn_dg w n i % 2 = 1 ∧ -(2 ^ (w - 1)) < wn_dg w n i ∧ wn_dg w n i < 2 ^ (w - 1)) := by
  rcases Int.emod_two_eq (wn_st w n i) with h | h
  · exact Or.inl ⟨h, (wn_even h).1⟩
  · obtain ⟨m, -, -, a, b, c⟩ := wn_odd hw h
    exact Or.inr ⟨h, a, b, c⟩
theorem wn_dg_small {w : Nat} (hw : wn_ok w) (n : Int) (i : Nat) : -32 < wn_dg w n i ∧ wn_dg w n i < 32 := by
  rcases wn_dg_cases hw n i with ⟨-, h⟩ | ⟨-, -, h1, h2⟩
  · rw [h]; decide
  · obtain ⟨q, g, hq, hg, c⟩ := wn_lits hw
    rw [hg] at h1 h2
    omega
theorem wn_dg_zero {w : Nat} (hw : wn_ok w) (n : Int) (i : Nat) : wn_dg w n i = 0 ↔ wn_st w n i % 2 = 0 := by
  rcases wn_dg_cases hw n i with ⟨h, h2⟩ | ⟨h, h2, -, -⟩
  · exact ⟨fun _ => h, fun _ => h2⟩
  · constructor
    · intro e; rw [e] at h2; exact absurd h2 (by decide)
    · intro e; omega
/-- what stands at i is the digit and twice what stands one place up -/
theorem wn_step {w : Nat} (hw : wn_ok w) (n : Int) (i : Nat) : wn_st w n i = wn_dg w n i + 2 * wn_st w n (i + 1) := by
  show _ = wn_md w (wn_st w n i) + 2 * wn_nx w (wn_st w n i)
  generalize wn_st w n i = x
  rcases Int.emod_two_eq x with h | h
  · rw [(wn_even h).1, (wn_even h).2]
    omega
  · obtain ⟨m, hm, hnx, -, -, -⟩ := wn_odd hw h
    have e : (2 : Int) ^ w * m = 2 * (2 ^ (w - 1) * m) := by
      have : w = (w - 1) + 1 := by rcases hw with rfl | rfl | rfl | rfl <;> omega
      rw [← wn_dbl, ← this]
    rw [hnx]
    omega
theorem wn_st_pow {w : Nat} {n : Int} {j a : Nat} {m : Int} (h : wn_st w n j = 2 ^ a * m) : ∀ k, k ≤ a → wn_st w n (j + k) = 2 ^ (a - k) * m := by
  intro k
  induction k with
  | zero => intro _; exact h
  | succ k ih =>
    intro hk
    show wn_nx w (wn_st w n (j + k)) = _
    rw [ih (by omega), show a - k = (a - (k + 1)) + 1 by omega, wn_dbl, (wn_even (wn_dbl0 _)).2, wn_dbl1]
/-- behind a digit that isn't 0 stand w - 1 that are -/
theorem wn_gap {w : Nat} (hw : wn_ok w) {n : Int} {i : Nat} (h : ¬ wn_dg w n i = 0) {k : Nat} (h1 : i < k) (h2 : k < i + w) : wn_dg w n k = 0 := by
  rcases wn_dg_cases hw n i with ⟨-, e⟩ | ⟨ho, -, -, -⟩
  · exact absurd e h
  · obtain ⟨m, -, hnx, -, -, -⟩ := wn_odd hw ho
    have h3 : wn_st w n (i + 1) = 2 ^ (w - 1) * m := hnx
    have h4 := wn_st_pow h3 (k - (i + 1)) (by omega)
    rw [show i + 1 + (k - (i + 1)) = k by omega, show w - 1 - (k - (i + 1)) = (w - 1 - (k - (i + 1)) - 1) + 1 by omega, wn_dbl] at h4
    unfold wn_dg
    rw [h4]
    exact (wn_even (wn_dbl0 _)).1
theorem wn_st_shift (w : Nat) (n : Int) : ∀ k, wn_st w (wn_nx w n) k = wn_st w n (k + 1) := by
  intro k
  induction k with
  | zero => rfl
  | succ k ih =>
    show wn_nx w (wn_st w (wn_nx w n) k) = wn_nx w (wn_st w n (k + 1))
    rw [ih]
/-- the doubled number: its digits are the number's, one place up -/
theorem wn_twice (w : Nat) (n : Int) : wn_dg w (n + n) 0 = 0 ∧ ∀ i, wn_dg w (n + n) (i + 1) = wn_dg w n i := by
  have h : (n + n) % 2 = 0 := by omega
  have h2 : wn_nx w (n + n) = n := by rw [(wn_even h).2]; omega
  refine ⟨(wn_even h).1, fun i => ?_⟩
  unfold wn_dg
  rw [← wn_st_shift, h2]
theorem wn_wt_snoc (w : Nat) : ∀ (k : Nat) (n : Int), wn_wt w (k + 1) n = wn_wt w k n + (if wn_st w n k % 2 = 0 then 0 else 1) := by
  intro k
  induction k with
  | zero =>
    intro n
    show (if n % 2 = 0 then 0 else 1) + 0 = 0 + (if n % 2 = 0 then 0 else 1)
    omega
  | succ k ih =>
    intro n
    show (if n % 2 = 0 then 0 else 1) + wn_wt w (k + 1) (wn_nx w n) = ((if n % 2 = 0 then 0 else 1) + wn_wt w k (wn_nx w n)) + _
    rw [ih, wn_st_shift, Nat.add_assoc]
/-- how many of the first k ints are not 0 -/
def wn_cn (f : Nat → Int32) : Nat → Nat
  | 0 => 0
  | k + 1 => wn_cn f k + (if f k = 0 then 0 else 1)
theorem wn_cn_wt {w : Nat} (hw : wn_ok w) {n : Int} {f : Nat → Int32} : ∀ k, (∀ i, i < k → (f i).toInt = wn_dg w n i) → wn_cn f k = wn_wt w k n := by
  intro k
  induction k with
  | zero => intro _; rfl
  | succ k ih =>
    intro h
    rw [wn_wt_snoc]
    show wn_cn f k + _ = _
    rw [ih (fun i hi => h i (by omega))]
    congr 1
    have h1 := h k (by omega)
    have h2 := wn_dg_zero hw n k
    by_cases c : f k = 0
    · have h3 : wn_st w n k % 2 = 0 := h2.mp (by rw [← h1, c]; decide)
      rw [if_pos c, if_pos h3]
    · have h3 : ¬ wn_st w n k % 2 = 0 := fun e => c (Int32.toInt_inj.mp (by rw [h1, h2.mpr e]; decide))
      rw [if_neg c, if_neg h3]
theorem wn_cn_le (f : Nat → Int32) : ∀ k, wn_cn f k ≤ k := by
  intro k
  induction k with
  | zero => exact Nat.le_refl _
  | succ k ih =>
    show wn_cn f k + (if f k = 0 then 0 else 1) ≤ k + 1
    by_cases c : f k = 0
    · rw [if_pos c]; omega
    · rw [if_neg c]; omega
theorem wn_cn_0 {f : Nat → Int32} : ∀ k, (∀ i, i < k → f i = 0) → wn_cn f k = 0 := by
  intro k
  induction k with
  | zero => intro _; rfl
  | succ k ih =>
    intro h
    show wn_cn f k + (if f k = 0 then 0 else 1) = 0
    rw [ih (fun i hi => h i (by omega)), if_pos (h k (by omega))]
/-- the ones of a number's first k places -/
def wn_bs (N : Nat) : Nat → Nat
  | 0 => 0
  | k + 1 => wn_bs N k + N / 2 ^ k % 2
theorem wn_half (N k : Nat) : N / 2 / 2 ^ k = N / 2 ^ (k + 1) := by
  rw [Nat.div_div_eq_div_mul, Nat.pow_succ, Nat.mul_comm]
theorem wn_bs_cons : ∀ (k N : Nat), wn_bs N (k + 1) = N % 2 + wn_bs (N / 2) k := by
  intro k
  induction k with
  | zero =>
    intro N
    show 0 + N / 2 ^ 0 % 2 = N % 2 + 0
    rw [Nat.pow_zero, Nat.div_one]
    omega
  | succ k ih =>
    intro N
    show wn_bs N (k + 1) + N / 2 ^ (k + 1) % 2 = N % 2 + (wn_bs (N / 2) k + N / 2 / 2 ^ k % 2)
    rw [ih, wn_half, Nat.add_assoc]
theorem wn_pc_bs : ∀ (k N : Nat), wn_pc k (N : Int) = wn_bs N k := by
  intro k
  induction k with
  | zero => intro N; rfl
  | succ k ih =>
    intro N
    rw [wn_bs_cons]
    show (if (N : Int) % 2 = 0 then 0 else 1) + wn_pc k ((N : Int) / 2) = _
    have e : (N : Int) / 2 = ((N / 2 : Nat) : Int) := by omega
    rw [e, ih]
    congr 1
    by_cases c : (N : Int) % 2 = 0
    · rw [if_pos c]; omega
    · rw [if_neg c]; omega
/-- what 'makes' has left at place i: the number so far less the digits so far, in units of 2^i -/
def wn_lf (w N i : Nat) : Int := ((N / 2 ^ i : Nat) : Int) - wn_st w (N : Int) i
theorem wn_lf_step {w : Nat} (hw : wn_ok w) (N i : Nat) : wn_lf w N i + (wn_dg w (N : Int) i - ((N / 2 ^ i % 2 : Nat) : Int)) = 2 * wn_lf w N (i + 1) := by
  have h := wn_step hw (N : Int) i
  unfold wn_lf
  have e : N / 2 ^ (i + 1) = N / 2 ^ i / 2 := by rw [Nat.div_div_eq_div_mul, ← Nat.pow_succ]
  rw [e]
  generalize N / 2 ^ i = x
  omega
theorem wn_lf_small {w : Nat} (hw : wn_ok w) (N : Nat) : ∀ i, -32 ≤ wn_lf w N i ∧ wn_lf w N i ≤ 32 := by
  intro i
  induction i with
  | zero =>
    unfold wn_lf
    rw [Nat.pow_zero, Nat.div_one]
    show -32 ≤ (N : Int) - (N : Int) ∧ (N : Int) - (N : Int) ≤ 32
    omega
  | succ i ih =>
    have h := wn_lf_step hw N i
    have h2 := wn_dg_small hw (N : Int) i
    omega
theorem wn_lf_end {w : Nat} (hw : wn_ok w) {N : Nat} (hN : N < 2 ^ 252) : wn_lf w N 253 = 0 := by
  unfold wn_lf
  have h1 : (N : Int) ≤ 2 ^ 252 := wn_le2 hN
  rw [wn_st_zero hw (by omega) h1 253 (by omega), Nat.div_eq_of_lt (Nat.lt_trans hN (by decide))]
  rfl
/-! the walk of the window: place p, carry c; the number above p and the carry are what is left -/
def wn_cy (w N p c : Nat) : Prop := c < 2 ∧ wn_st w (N : Int) p = ((N / 2 ^ p + c : Nat) : Int)
theorem wn_up1 (N p : Nat) : N / 2 ^ (p + 1) = N / 2 ^ p / 2 := by rw [Nat.div_div_eq_div_mul, ← Nat.pow_succ]
/-- the bit is the carry: the digit is 0 -/
theorem wn_cy_skip {w N p c : Nat} (h : wn_cy w N p c) (hb : N / 2 ^ p % 2 = c) : wn_dg w (N : Int) p = 0 ∧ wn_cy w N (p + 1) c := by
  obtain ⟨h1, h2⟩ := h
  have he : wn_st w (N : Int) p % 2 = 0 := by rw [h2]; omega
  refine ⟨(wn_even he).1, h1, ?_⟩
  show wn_nx w (wn_st w (N : Int) p) = _
  rw [(wn_even he).2, h2, wn_up1]
  omega
/-- the digit that is written: the lowest w places of the odd number, as a signed one -/
def wn_sg (w y : Nat) : Int := if ((y % 2 ^ w : Nat) : Int) < 2 ^ (w - 1) then ((y % 2 ^ w : Nat) : Int) else ((y % 2 ^ w : Nat) : Int) - 2 ^ w
/-- the bit isn't the carry: y, the number above p with its lowest bit set, gives the digit; the next carry is the digit's sign -/
theorem wn_cy_take {w N p c y : Nat} (hw : wn_ok w) (h : wn_cy w N p c) (hb : ¬ N / 2 ^ p % 2 = c) (hy : y = N / 2 ^ p + (1 - N / 2 ^ p % 2)) : wn_dg w (N : Int) p = wn_sg w y ∧ (∀ k, p < k → k < p + w → wn_dg w (N : Int) k = 0) ∧ wn_cy w N (p + w) (if wn_sg w y < 0 then 1 else 0) ∧ -32 < wn_sg w y ∧ wn_sg w y < 32 := by
  obtain ⟨h1, h2⟩ := h
  have e1 : wn_st w (N : Int) p = (y : Int) := by rw [h2, hy]; omega
  have ho : wn_st w (N : Int) p % 2 = 1 := by rw [e1, hy]; omega
  have hd : wn_dg w (N : Int) p = wn_sg w y := by
    unfold wn_dg wn_md wn_sg
    rw [if_neg (by omega), e1]
    have e2 : ((y % 2 ^ w : Nat) : Int) = ((y : Nat) : Int) % ((2 ^ w : Nat) : Int) := Int.natCast_emod y (2 ^ w)
    rw [wn_cp] at e2
    rw [e2]
  have hne : ¬ wn_dg w (N : Int) p = 0 := fun e => by
    have := (wn_dg_zero hw (N : Int) p).mp e
    omega
  have hsm := wn_dg_small hw (N : Int) p
  refine ⟨hd, fun k k1 k2 => wn_gap hw hne k1 k2, ⟨by split <;> omega, ?_⟩, by rw [← hd]; exact hsm.1, by rw [← hd]; exact hsm.2⟩
  obtain ⟨m, hm, hnx, -, r1, r2⟩ := wn_odd hw ho
  have h3 : wn_st w (N : Int) (p + 1) = 2 ^ (w - 1) * m := hnx
  have h4 := wn_st_pow h3 (w - 1) (Nat.le_refl _)
  have hw1 : p + 1 + (w - 1) = p + w := by rcases hw with rfl | rfl | rfl | rfl <;> omega
  rw [Nat.sub_self, Int.pow_zero, Int.one_mul, hw1] at h4
  rw [h4]
  have hm2 : (y : Int) = wn_sg w y + 2 ^ w * m := by
    rw [← hd, ← e1]
    exact hm
  have r1 : -(2 ^ (w - 1)) < wn_sg w y := by rw [← hd]; exact r1
  have r2 : wn_sg w y < 2 ^ (w - 1) := by rw [← hd]; exact r2
  have e5 : N / 2 ^ (p + w) = N / 2 ^ p / 2 ^ w := by rw [Nat.div_div_eq_div_mul, ← Nat.pow_add]
  rw [e5]
  generalize N / 2 ^ p = x at hy
  generalize wn_sg w y = d at hm2 r1 r2
  obtain ⟨q, g, hq, hg, c9⟩ := wn_lits hw
  rw [hq] at hm2
  rw [hg] at r1 r2
  have hqn : ∃ qn : Nat, 2 ^ w = qn ∧ (qn : Int) = q := ⟨2 ^ w, rfl, by rw [wn_cp, hq]⟩
  obtain ⟨qn, hq1, hq2⟩ := hqn
  rw [hq1]
  by_cases hs : d < 0
  · rw [if_pos hs]
    rcases c9 with ⟨rfl, rfl⟩ | ⟨rfl, rfl⟩ | ⟨rfl, rfl⟩ | ⟨rfl, rfl⟩
    · obtain rfl : qn = 8 := by omega
      omega
    · obtain rfl : qn = 16 := by omega
      omega
    · obtain rfl : qn = 32 := by omega
      omega
    · obtain rfl : qn = 64 := by omega
      omega
  · rw [if_neg hs]
    rcases c9 with ⟨rfl, rfl⟩ | ⟨rfl, rfl⟩ | ⟨rfl, rfl⟩ | ⟨rfl, rfl⟩
    · obtain rfl : qn = 8 := by omega
      omega
    · obtain rfl : qn = 16 := by omega
      omega
    · obtain rfl : qn = 32 := by omega
      omega
    · obtain rfl : qn = 64 := by omega
      omega
/-- from place 253 on nothing is left -/
theorem wn_cy_end {w N p c : Nat} (hw : wn_ok w) (hN : N < 2 ^ 252) (h : wn_cy w N p c) (hp : 253 ≤ p) : N / 2 ^ p % 2 = c := by
  have h1 : (N : Int) ≤ 2 ^ 252 := wn_le2 hN
  have h2 := wn_st_zero hw (by omega) h1 p (by omega)
  have h3 := h.2
  rw [h2] at h3
  generalize N / 2 ^ p = x at h3 ⊢
  omega
end
section
/-! ints as numbers: the words of a number, shifts and masks of the window's walk -/
def wn_u (x : Int32) : Nat := x.toBitVec.toNat
theorem wn_u_lt (x : Int32) : wn_u x < 4294967296 := x.toBitVec.isLt
theorem wn_u_nI {n : Nat} (h : n < 4294967296) : wn_u (nI n) = n := pk_tn h
theorem wn_u_mod (n : Nat) : wn_u (nI n) = n % 4294967296 := by
  show (BitVec.ofNat 32 n).toNat = _
  rw [BitVec.toNat_ofNat]
theorem wn_nI_u (x : Int32) : x = nI (wn_u x) := Int32.toBitVec_inj.mp (by
  show x.toBitVec = BitVec.ofNat 32 x.toBitVec.toNat
  simp)
theorem wn_u_inj {x y : Int32} (h : wn_u x = wn_u y) : x = y := by rw [wn_nI_u x, wn_nI_u y, h]
theorem wn_u_eq {x : Int32} {n : Nat} (h : wn_u x = n) : x = nI n := by rw [← h]; exact wn_nI_u x
theorem wn_s_l : ∀ n, n < 32 → ((nI n &&& 31).toBitVec.smod 32).toNat = n := by decide +kernel
theorem wn_s_u : ∀ n, n < 32 → (((nI n).toUInt32 &&& Int32.toUInt32 31).toBitVec % 32).toNat = n := by decide +kernel
/-- f holds the number N: eight words, below 2^252 -/
def wn_is (f : Nat → Int32) (N : Nat) : Prop := N < 2 ^ 252 ∧ ∀ k, k < 8 → wn_u (f k) = N / 2 ^ (32 * k) % 4294967296
theorem wn_up32 (N k : Nat) : N / 2 ^ (32 * (k + 1)) = N / 2 ^ (32 * k) / 4294967296 := by
  rw [Nat.div_div_eq_div_mul, show (4294967296 : Nat) = 2 ^ 32 from rfl, ← Nat.pow_add, Nat.mul_succ]
theorem wn_is_congr {f g : Nat → Int32} {N : Nat} (h : wn_is f N) (e : ∀ k, k < 8 → g k = f k) : wn_is g N := ⟨h.1, fun k hk => by rw [e k hk]; exact h.2 k hk⟩
/-- the top word of a number below 2^252 -/
theorem wn_is_top {f : Nat → Int32} {N : Nat} (h : wn_is f N) : wn_u (f 7) < 268435456 := by
  rw [h.2 7 (by decide)]
  have h1 : N / 2 ^ (32 * 7) < 268435456 := by
    rw [Nat.div_lt_iff_lt_mul (Nat.two_pow_pos _)]
    exact h.1
  exact Nat.lt_of_le_of_lt (Nat.mod_le _ _) h1
theorem wn_mask28 {x : Int32} (h : wn_u x < 268435456) : x &&& 268435455 = x := by
  have e := pk_and x (m := 268435455) 28 (by decide)
  rw [e]
  exact (wn_u_eq (x := x) (n := x.toBitVec.toNat % 2 ^ 28) (Nat.mod_eq_of_lt h).symm).symm
/-- eight words make a number -/
def wn_wv (f : Nat → Int32) : Nat → Nat → Nat
  | 0, _ => 0
  | c + 1, k => wn_u (f k) + 4294967296 * wn_wv f c (k + 1)
theorem wn_wv_div (f : Nat → Int32) : ∀ j c k, j ≤ c → wn_wv f c k / 2 ^ (32 * j) = wn_wv f (c - j) (k + j) := by
  intro j
  induction j with
  | zero => intro c k _; rw [Nat.mul_zero, Nat.pow_zero, Nat.div_one, Nat.sub_zero, Nat.add_zero]
  | succ j ih =>
    intro c k h
    cases c with
    | zero => exact absurd h (by omega)
    | succ c =>
      have e : (2 : Nat) ^ (32 * (j + 1)) = 4294967296 * 2 ^ (32 * j) := by
        rw [show (4294967296 : Nat) = 2 ^ 32 from rfl, ← Nat.pow_add, Nat.mul_succ, Nat.add_comm]
      have h1 : wn_wv f (c + 1) k / 4294967296 = wn_wv f c (k + 1) := by
        show (wn_u (f k) + 4294967296 * wn_wv f c (k + 1)) / 4294967296 = _
        have := wn_u_lt (f k)
        omega
      rw [e, ← Nat.div_div_eq_div_mul, h1, ih c (k + 1) (by omega), Nat.add_sub_add_right, show k + 1 + j = k + (j + 1) by omega]
theorem wn_wv_lt (f : Nat → Int32) {b : Nat} (h : wn_u (f 7) < 2 ^ b) : wn_wv f 8 0 < 2 ^ (224 + b) := by
  have h0 := wn_wv_div f 7 8 0 (by decide)
  have h1 : wn_wv f (8 - 7) (0 + 7) = wn_u (f 7) := by
    show wn_u (f 7) + 4294967296 * 0 = _
    omega
  rw [h1] at h0
  rw [Nat.pow_add, Nat.mul_comm, ← Nat.div_lt_iff_lt_mul (Nat.two_pow_pos _)]
  rw [show 32 * 7 = 224 from rfl] at h0
  rw [h0]
  exact h
theorem wn_is_of (f : Nat → Int32) (h : wn_u (f 7) < 2 ^ 27) : ∃ N, N < 2 ^ 251 ∧ wn_is f N := by
  have h1 := wn_wv_lt f h
  refine ⟨wn_wv f 8 0, h1, Nat.lt_trans h1 (by decide), fun k hk => ?_⟩
  rw [wn_wv_div f k 8 0 (by omega), Nat.zero_add, show 8 - k = (7 - k) + 1 by omega]
  show _ = (wn_u (f k) + 4294967296 * wn_wv f (7 - k) (k + 1)) % 4294967296
  have := wn_u_lt (f k)
  omega
/-- a place of the number is a place of its word -/
theorem wn_is_bit {f : Nat → Int32} {N i : Nat} (h : wn_is f N) (hi : i < 256) : wn_u (f (i / 32)) / 2 ^ (i % 32) % 2 = N / 2 ^ i % 2 := by
  rw [h.2 (i / 32) (by omega)]
  have e : N / 2 ^ i = N / 2 ^ (32 * (i / 32)) / 2 ^ (i % 32) := by
    rw [Nat.div_div_eq_div_mul, ← Nat.pow_add]
    congr 2
    omega
  rw [e]
  generalize N / 2 ^ (32 * (i / 32)) = X
  have hr : i % 32 < 32 := Nat.mod_lt _ (by decide)
  generalize i % 32 = r at hr
  have e2 : (4294967296 : Nat) = 2 ^ r * 2 ^ (32 - r) := by
    rw [← Nat.pow_add, show r + (32 - r) = 32 by omega]
  have e3 : (2 : Nat) ∣ 2 ^ (32 - r) := by
    rw [show 32 - r = (32 - r - 1) + 1 by omega, Nat.pow_succ]
    exact Nat.dvd_mul_left 2 _
  rw [e2, Nat.mod_mul_right_div_self, Nat.mod_mod_of_dvd _ e3]
theorem wn_is_bit0 {f : Nat → Int32} {N : Nat} (h : wn_is f N) : N / 2 ^ 252 % 2 = 0 := by
  rw [Nat.div_eq_of_lt h.1]
/-- the law's own 'bit': the shift with sign and the mask 1 -/
theorem wn_sbit (x : Int32) {r : Nat} (hr : r < 32) : (x >>> (nI r &&& 31)) &&& 1 = nI (wn_u x / 2 ^ r % 2) := by
  rw [pk_and _ (m := 1) 1 (by decide)]
  congr 1
  have h : (x >>> (nI r &&& 31)).toBitVec.getLsbD 0 = x.toBitVec.getLsbD r := by
    rw [Int32.toBitVec_shiftRight]
    show (x.toBitVec.sshiftRight ((nI r &&& 31).toBitVec.smod 32).toNat).getLsbD 0 = _
    rw [wn_s_l r hr, BitVec.getLsbD_sshiftRight]
    simp [hr]
  rw [← BitVec.testBit_toNat, ← BitVec.testBit_toNat, Nat.testBit_eq_decide_div_mod_eq, Nat.testBit_eq_decide_div_mod_eq, Nat.pow_zero, Nat.div_one] at h
  have h2 := decide_eq_decide.mp h
  show (x >>> (nI r &&& 31)).toBitVec.toNat % 2 ^ 1 = x.toBitVec.toNat / 2 ^ r % 2
  rw [Nat.pow_one]
  omega
theorem wn_bit_ix {i : Nat} (hi : i < 252) : nI i >>> ((nI 5) &&& 31) = nI (i / 32) := by
  rw [pk_shrN (by omega) (nI 5 &&& 31) 5 (by decide)]
theorem wn_bit_sh {i : Nat} (hi : i < 252) : nI i &&& nI 31 = nI (i % 32) := by
  rw [pk_andN (by omega) (m := nI 31) 5 (by decide)]
/-- the width that is drawn from an int -/
theorem wn_width (x : Int32) : nI 3 + (x &&& nI 3) = nI (3 + wn_u x % 4) := by
  rw [pk_and x (m := nI 3) 2 (by decide), nI_add]
  rfl
theorem wn_ok_of (x : Nat) : wn_ok (3 + x % 4) := by
  unfold wn_ok
  omega
theorem wn_u_or (x y : Int32) : wn_u (x ||| y) = wn_u x ||| wn_u y := by
  show (x ||| y).toBitVec.toNat = _
  rw [Int32.toBitVec_or, BitVec.toNat_or]
  rfl
/-- parts that don't overlap -/
theorem wn_or_add {a k : Nat} (b : Nat) (h : a < 2 ^ k) : a ||| (b * 2 ^ k) = a + b * 2 ^ k := by
  rw [Nat.or_comm, Nat.mul_comm, ← Nat.two_pow_add_eq_or_of_lt h, Nat.add_comm]
theorem wn_u_shl (x : Int32) {k : Nat} (hk : k < 32) : wn_u (x <<< (nI k &&& 31)) = wn_u x * 2 ^ k % 4294967296 := pk_shl x (nI k &&& 31) k (wn_s_l k hk)
theorem wn_u_ushr (x : Int32) {k : Nat} (hk : k < 32) : wn_u (x.toUInt32 >>> ((nI k).toUInt32 &&& Int32.toUInt32 31)).toInt32 = wn_u x / 2 ^ k := pk_ushr x (nI k) k (wn_s_u k hk)
/-- w | any << 2 : its lowest two places are w -/
theorem wn_low2 {w : Nat} (hw : w < 4) (x : Int32) : wn_u (nI w ||| (x <<< (nI 2 &&& 31))) % 4 = w := by
  rw [wn_u_or, wn_u_shl x (by decide), wn_u_nI (by omega)]
  have e : wn_u x * 2 ^ 2 % 4294967296 = (wn_u x % 1073741824) * 2 ^ 2 := by omega
  rw [e, wn_or_add _ (show w < 2 ^ 2 by omega)]
  omega
/-- k | i << 3 : its lowest three places are k -/
theorem wn_low3 {k : Nat} (hk : k < 8) (x : Int32) : wn_u (nI k ||| (x <<< (nI 3 &&& 31))) % 8 = k := by
  rw [wn_u_or, wn_u_shl x (by decide), wn_u_nI (by omega)]
  have e : wn_u x * 2 ^ 3 % 4294967296 = (wn_u x % 536870912) * 2 ^ 3 := by omega
  rw [e, wn_or_add _ (show k < 2 ^ 3 by omega)]
  omega
/-- (next >>> 16) | (c << 16) -/
theorem wn_half_word (x c : Int32) : wn_u ((x.toUInt32 >>> ((nI 16).toUInt32 &&& Int32.toUInt32 31)).toInt32 ||| (c <<< (nI 16 &&& 31))) = wn_u x / 65536 + 65536 * (wn_u c % 65536) := by
  rw [wn_u_or, wn_u_ushr x (by decide), wn_u_shl c (by decide)]
  have hx := wn_u_lt x
  have e : wn_u c * 2 ^ 16 % 4294967296 = (wn_u c % 65536) * 2 ^ 16 := by omega
  rw [e, wn_or_add _ (show wn_u x / 2 ^ 16 < 2 ^ 16 by omega)]
  omega
/-- the half words of the number, as the walk lays them -/
theorem wn_T_odd (N k : Nat) : N / 2 ^ (16 * (2 * k + 1)) % 4294967296 = (N / 2 ^ (32 * k) % 4294967296) / 65536 + 65536 * (N / 2 ^ (32 * (k + 1)) % 65536) := by
  have e : N / 2 ^ (16 * (2 * k + 1)) = N / 2 ^ (32 * k) / 65536 := by
    rw [Nat.div_div_eq_div_mul, show (65536 : Nat) = 2 ^ 16 from rfl, ← Nat.pow_add]
    congr 2
    omega
  rw [e, wn_up32]
  generalize N / 2 ^ (32 * k) = X
  omega
theorem wn_T_even (N k : Nat) : N / 2 ^ (16 * (2 * k)) % 4294967296 = N / 2 ^ (32 * k) % 4294967296 := by
  rw [show 16 * (2 * k) = 32 * k by omega]
theorem wn_sar31 {x : Int32} (h : wn_u x < 268435456) : x >>> (nI 31 &&& 31) = nI 0 := by
  rw [wn_nI_u x, pk_shrN (by omega) (nI 31 &&& 31) 31 (wn_s_l 31 (by decide))]
  congr 1
  exact Nat.div_eq_of_lt (by omega)
/-! the digit -/
theorem wn_or1 (v : Nat) : v ||| 1 = v + (1 - v % 2) := by
  have h := Nat.two_pow_add_eq_or_of_lt (i := 1) (b := 1) (by decide) (v / 2)
  rcases Nat.mod_two_eq_zero_or_one v with e | e
  · have e1 : 2 ^ 1 * (v / 2) = v := by omega
    rw [e1] at h
    rw [← h]
    omega
  · have e1 : 2 ^ 1 * (v / 2) + 1 = v := by omega
    have e2 : v ||| 1 = (2 ^ 1 * (v / 2) ||| 1) ||| 1 := by rw [← h, e1]
    rw [e2, Nat.or_assoc, Nat.or_self, ← h, e1]
    omega
theorem wn_toInt_u (x : Int32) : x.toInt = if wn_u x < 2147483648 then (wn_u x : Int) else (wn_u x : Int) - 4294967296 := by
  show x.toBitVec.toInt = _
  rw [BitVec.toInt_eq_toNat_cond]
  have hx := wn_u_lt x
  unfold wn_u at hx ⊢
  by_cases h : 2 * x.toBitVec.toNat < 2 ^ 32
  · rw [if_pos h, if_pos (by omega)]
  · rw [if_neg h, if_neg (by omega)]
    rfl
theorem wn_sg_congr {w y z : Nat} (h : y % 2 ^ w = z % 2 ^ w) : wn_sg w y = wn_sg w z := by
  unfold wn_sg
  rw [h]
def wn_sgn (w Y : Nat) : Int := if ((Y : Nat) : Int) < 2 ^ (w - 1) then ((Y : Nat) : Int) else ((Y : Nat) : Int) - 2 ^ w
theorem wn_tab3 : ∀ Y, Y < 2 ^ 3 → (if Y * 2 ^ (32 - 3) < 2147483648 then ((Y * 2 ^ (32 - 3) : Nat) : Int) else ((Y * 2 ^ (32 - 3) : Nat) : Int) - 4294967296) / ((2 ^ (32 - 3) : Nat) : Int) = wn_sgn 3 Y ∧ Y * 2 ^ (32 - 3) / 2 ^ 31 = (if wn_sgn 3 Y < 0 then 1 else 0) := by decide +kernel
theorem wn_tab4 : ∀ Y, Y < 2 ^ 4 → (if Y * 2 ^ (32 - 4) < 2147483648 then ((Y * 2 ^ (32 - 4) : Nat) : Int) else ((Y * 2 ^ (32 - 4) : Nat) : Int) - 4294967296) / ((2 ^ (32 - 4) : Nat) : Int) = wn_sgn 4 Y ∧ Y * 2 ^ (32 - 4) / 2 ^ 31 = (if wn_sgn 4 Y < 0 then 1 else 0) := by decide +kernel
theorem wn_tab5 : ∀ Y, Y < 2 ^ 5 → (if Y * 2 ^ (32 - 5) < 2147483648 then ((Y * 2 ^ (32 - 5) : Nat) : Int) else ((Y * 2 ^ (32 - 5) : Nat) : Int) - 4294967296) / ((2 ^ (32 - 5) : Nat) : Int) = wn_sgn 5 Y ∧ Y * 2 ^ (32 - 5) / 2 ^ 31 = (if wn_sgn 5 Y < 0 then 1 else 0) := by decide +kernel
theorem wn_tab6 : ∀ Y, Y < 2 ^ 6 → (if Y * 2 ^ (32 - 6) < 2147483648 then ((Y * 2 ^ (32 - 6) : Nat) : Int) else ((Y * 2 ^ (32 - 6) : Nat) : Int) - 4294967296) / ((2 ^ (32 - 6) : Nat) : Int) = wn_sgn 6 Y ∧ Y * 2 ^ (32 - 6) / 2 ^ 31 = (if wn_sgn 6 Y < 0 then 1 else 0) := by decide +kernel
theorem wn_tab {w : Nat} (hw : wn_ok w) {Y : Nat} (hY : Y < 2 ^ w) : (if Y * 2 ^ (32 - w) < 2147483648 then ((Y * 2 ^ (32 - w) : Nat) : Int) else ((Y * 2 ^ (32 - w) : Nat) : Int) - 4294967296) / ((2 ^ (32 - w) : Nat) : Int) = wn_sgn w Y ∧ Y * 2 ^ (32 - w) / 2 ^ 31 = (if wn_sgn w Y < 0 then 1 else 0) := by
  rcases hw with rfl | rfl | rfl | rfl
  · exact wn_tab3 Y hY
  · exact wn_tab4 Y hY
  · exact wn_tab5 Y hY
  · exact wn_tab6 Y hY
/-- the shift up and down makes the signed digit; its sign bit is the next carry -/
theorem wn_dgt {w : Nat} (hw : wn_ok w) (x : Int32) : ((x <<< (nI (32 - w) &&& 31)) >>> (nI (32 - w) &&& 31)).toInt = wn_sg w (wn_u x) ∧ ((x <<< (nI (32 - w) &&& 31)).toUInt32 >>> ((nI 31).toUInt32 &&& Int32.toUInt32 31)).toInt32 = nI (if wn_sg w (wn_u x) < 0 then 1 else 0) := by
  have hk : 32 - w < 32 := by rcases hw with rfl | rfl | rfl | rfl <;> decide
  have e1 : wn_u (x <<< (nI (32 - w) &&& 31)) = (wn_u x % 2 ^ w) * 2 ^ (32 - w) := by
    rw [wn_u_shl x hk]
    have : (4294967296 : Nat) = 2 ^ w * 2 ^ (32 - w) := by
      rw [← Nat.pow_add, show w + (32 - w) = 32 by rcases hw with rfl | rfl | rfl | rfl <;> rfl]
    rw [this, Nat.mul_mod_mul_right]
  have e2 := wn_toInt_u (x <<< (nI (32 - w) &&& 31))
  have e3 := wn_u_ushr (x <<< (nI (32 - w) &&& 31)) (k := 31) (by decide)
  have e4 := pk_shr (x <<< (nI (32 - w) &&& 31)) (nI (32 - w) &&& 31) (32 - w) (wn_s_l (32 - w) hk)
  obtain ⟨t1, t2⟩ := wn_tab hw (Nat.mod_lt (wn_u x) (Nat.two_pow_pos w))
  rw [e1] at e2 e3
  rw [Int.shiftRight_eq_div_pow, e2, t1] at e4
  rw [t2] at e3
  exact ⟨e4, wn_u_eq e3⟩
theorem wn_byte {x : Int32} {d : Int} (h : x.toInt = d) (h1 : -32 < d) (h2 : d < 32) : vp_nar .byte x.toInt8.toInt32 = x := by
  rw [vp_nar_byte, lg_i2b_small (v := x) (by omega) (by omega)]
  exact lg_i2b_small (by omega) (by omega)
/-- the word that the walk reads, moved down by j: the number above place 16 i + j, cut at 32 - j places -/
theorem wn_cut {N i j : Nat} (hj : j < 16) : N / 2 ^ (16 * i) % 4294967296 / 2 ^ j = N / 2 ^ (16 * i + j) % 2 ^ (32 - j) := by
  have e : (4294967296 : Nat) = 2 ^ j * 2 ^ (32 - j) := by
    rw [← Nat.pow_add, show j + (32 - j) = 32 by omega]
  rw [e, Nat.mod_mul_right_div_self, Nat.div_div_eq_div_mul, ← Nat.pow_add]
theorem wn_cut_mod {w X j : Nat} (hw : wn_ok w) (hj : j < 16) : (X % 2 ^ (32 - j) + (1 - X % 2 ^ (32 - j) % 2)) % 2 ^ w = (X + (1 - X % 2)) % 2 ^ w := by
  have e3 : (2 : Nat) ∣ 2 ^ (32 - j) := by
    rw [show 32 - j = (32 - j - 1) + 1 by omega, Nat.pow_succ]
    exact Nat.dvd_mul_left 2 _
  have e4 : (2 : Nat) ^ w ∣ 2 ^ (32 - j) := Nat.pow_dvd_pow 2 (by rcases hw with rfl | rfl | rfl | rfl <;> omega)
  rw [Nat.mod_mod_of_dvd _ e3, Nat.add_mod, Nat.mod_mod_of_dvd _ e4, ← Nat.add_mod]
theorem wn_cut_bit {X j : Nat} (hj : j < 16) : X % 2 ^ (32 - j) % 2 = X % 2 := by
  have e3 : (2 : Nat) ∣ 2 ^ (32 - j) := by
    rw [show 32 - j = (32 - j - 1) + 1 by omega, Nat.pow_succ]
    exact Nat.dvd_mul_left 2 _
  exact Nat.mod_mod_of_dvd _ e3
/-! the law's sum, word by word -/
theorem wn_low32 (x : Int32) : x.toInt64 &&& 4294967295 = lN (wn_u x) := by
  apply Int64.toBitVec_inj.mp
  apply BitVec.eq_of_toNat_eq
  rw [Int64.toBitVec_and, BitVec.toNat_and, show (4294967295 : Int64).toBitVec.toNat = 2 ^ 32 - 1 from by decide, Nat.and_two_pow_sub_one_eq_mod]
  show (x.toBitVec.signExtend 64).toNat % 2 ^ 32 = (BitVec.ofNat 64 (wn_u x)).toNat
  have hx := wn_u_lt x
  rw [BitVec.toNat_ofNat, Nat.mod_eq_of_lt (show wn_u x < 2 ^ 64 by omega), BitVec.toNat_signExtend]
  unfold wn_u
  unfold wn_u at hx
  rw [BitVec.toNat_setWidth]
  split <;> omega
theorem wn_l2i (n : Nat) : (lN n).toInt32 = nI n := lN_i n
theorem wn_c32 : ((nI 32).toInt64 &&& 63) = lN 32 := by decide +kernel
theorem wn_c32s : ((lN 32).toBitVec.smod 64).toNat = 32 := by decide +kernel
theorem wn_lshr {a : Nat} (h : a < 4611686018427387904) : lN a >>> ((nI 32).toInt64 &&& 63) = lN (a / 4294967296) := by
  rw [wn_c32]
  have hd : a / 4294967296 ≤ a := Nat.div_le_self _ _
  apply Int64.toInt_inj.mp
  have e : (lN a >>> lN 32).toInt = (lN a).toInt >>> 32 := by
    have h2 : (lN a >>> lN 32).toInt = ((lN a).toBitVec.sshiftRight ((lN 32).toBitVec.smod 64).toNat).toInt := rfl
    rw [h2, wn_c32s]
    exact BitVec.toInt_sshiftRight ..
  rw [e, Int.shiftRight_eq_div_pow, pk_lT (show a < 2 ^ 63 by omega), pk_lT (show a / 4294967296 < 2 ^ 63 by omega)]
  rfl
/-- the carry of the sum at word k -/
def wn_ov (A B k o : Nat) : Prop := o < 2 ∧ (A + B) / 2 ^ (32 * k) = A / 2 ^ (32 * k) + B / 2 ^ (32 * k) + o
theorem wn_ov_0 (A B : Nat) : wn_ov A B 0 0 := by
  refine ⟨by decide, ?_⟩
  rw [Nat.mul_zero, Nat.pow_zero, Nat.div_one, Nat.div_one, Nat.div_one, Nat.add_zero]
theorem wn_ov_s {A B k o a b : Nat} (h : wn_ov A B k o) (ha : a = A / 2 ^ (32 * k) % 4294967296) (hb : b = B / 2 ^ (32 * k) % 4294967296) : (o + (a + b)) % 4294967296 = (A + B) / 2 ^ (32 * k) % 4294967296 ∧ wn_ov A B (k + 1) ((o + (a + b)) / 4294967296) := by
  obtain ⟨h1, h2⟩ := h
  subst ha
  subst hb
  unfold wn_ov
  rw [wn_up32, wn_up32, wn_up32, h2]
  generalize A / 2 ^ (32 * k) = X
  generalize B / 2 ^ (32 * k) = Y
  omega
end
section
/-! rows of ours: a method's start, its end and a call, in few words. A 'world': the cells that a method may read and write -/
abbrev vwCl : List vw_C := [(RX1, TX1, 3)]
/-- a start: the world ws at a heap of sz cells -/
def wk_Pc (As : List Value) (sz : Nat) (D : va_G) (cl : List vw_C) (ws : va_W) (tys : List (ClassId × FieldType)) : Array Value → State → Prop := va_Pc As (fun U => U.heap.size = sz ∧ va_P D cl ws U.heap ∧ va_K D cl tys U ∧ va_D (fun _ => True) ws)
/-- a start that reads alone -/
def wk_Pp (As : List Value) (D : va_G) (cl : List vw_C) (ws : va_W) (tys : List (ClassId × FieldType)) : Array Value → State → Prop := va_Pc As (fun U => va_P D cl ws U.heap ∧ va_K D cl tys U)
/-- the world behind a method -/
def wk_B {S : Type} (D : va_G) (cl : List vw_C) (A : Nat → Prop) (w1 : S → va_W) (t1 : S → List (ClassId × FieldType)) : S → State → Prop := fun u t => va_P D cl (w1 u) t.heap ∧ va_K D cl (t1 u) t ∧ va_D A (w1 u)
def wk_R {S : Type} (D : va_G) (cl : List vw_C) (A : Nat → Prop) (w1 : S → Nat → va_W) (t1 : S → List (ClassId × FieldType)) : S → Nat → State → Prop := fun u a t => va_P D cl (w1 u a) t.heap ∧ va_K D cl (t1 u) t ∧ va_D A (w1 u a)
/-- contracts: void, int or boolean, a reference; and one that reads alone -/
abbrev wk_Mv {S : Type} (l : Launch) (y : MethodName) (cc : ByteArray) (maxL : Nat) (rm : Room) (As : List Value) (sz : Nat) (D : va_G) (W0 : va_W) (tys : List (ClassId × FieldType)) (post : S → Prop) (w1 : S → va_W) (t1 : S → List (ClassId × FieldType)) (mc ms : Nat) : Prop :=
  Met l y (ws_ y cc maxL none) rm (wk_Pc As sz D vwCl W0 tys) (va_Qv post (wk_B D vwCl (va_A W0 sz) w1 t1) (va_A W0 sz)) mc ms (va_A W0 sz)
abbrev wk_Mi {S : Type} (l : Launch) (y : MethodName) (cc : ByteArray) (maxL : Nat) (ret : Option FieldType) (rm : Room) (As : List Value) (sz : Nat) (D : va_G) (W0 : va_W) (tys : List (ClassId × FieldType)) (post : Int32 → S → Prop) (w1 : S → va_W) (t1 : S → List (ClassId × FieldType)) (mc ms : Nat) : Prop :=
  Met l y (ws_ y cc maxL ret) rm (wk_Pc As sz D vwCl W0 tys) (va_Qi post (wk_B D vwCl (va_A W0 sz) w1 t1) (va_A W0 sz)) mc ms (va_A W0 sz)
abbrev wk_Mr {S : Type} (l : Launch) (y : MethodName) (cc : ByteArray) (maxL : Nat) (ret : Option FieldType) (rm : Room) (As : List Value) (sz : Nat) (D : va_G) (W0 : va_W) (tys : List (ClassId × FieldType)) (post : S → Prop) (w1 : S → Nat → va_W) (t1 : S → List (ClassId × FieldType)) (mc ms : Nat) : Prop :=
  Met l y (ws_ y cc maxL ret) rm (wk_Pc As sz D vwCl W0 tys) (va_Qr post (wk_R D vwCl (va_A W0 sz) w1 t1) (va_A W0 sz)) mc ms (va_A W0 sz)
abbrev wk_Mp (l : Launch) (y : MethodName) (cc : ByteArray) (maxL : Nat) (ret : Option FieldType) (rm : Room) (As : List Value) (D : va_G) (W0 : va_W) (tys : List (ClassId × FieldType)) (post : Int32 → Prop) : Prop :=
  Met l y (ws_ y cc maxL ret) rm (wk_Pp As D vwCl W0 tys) (vp_Si post) 0 0 (fun _ => False)
theorem wk_met0 {l : Launch} {y : MethodName} {cc : ByteArray} {maxL : Nat} {ret : Option FieldType} {rm : Room} {mc ms sz : Nat} {As : List Value} {D : va_G} {cl : List vw_C} {W0 : va_W} {tys : List (ClassId × FieldType)} (QA : (Nat → Prop) → Array Value → State → Outcome → State → Prop) (hy : plainName y.cls = true) (hlen : (lg_sl As).length ≤ maxL)
    (body : ∀ (p : Program) (e : Env) (s : State) (m : MethodId) (below : List Frame) (meth : Method) (c : Code) (A : Nat → Prop) (ls : Array Slot), p.tables.exec = Jvm.exec → c.code = cc → meth.sig.returnType = ret → c.maxLocals = maxL → meth.locks = false → (∀ w ∈ lw_all, w.before As.toArray s = true) → s.vm.findClass y.cls = some m.cls → meth.name = y.name → s.heap.size = sz → va_P D cl W0 s.heap → va_K D cl tys s → va_D A W0 → va_S A s.heap s.heap [] → (∀ q : Nat, s.heap.size ≤ q → A q) → lv_has ls maxL (lv_args 0 As) →
      W p l e rm s m As.toArray below meth c s.heap [] 0 0 (MQ below (QA A) As.toArray s mc ms A) (F0 m 0 ls [])) :
    Met l y (ws_ y cc maxL ret) rm (wk_Pc As sz D cl W0 tys) (QA (va_A W0 sz)) mc ms (va_A W0 sz) := by
  refine Met.ofW (cc := cc) (maxL := maxL) (ret := ret) hy rfl ?_
  intro p e s m args below meth c s₁ B hml hv
  obtain ⟨rfl, hsz, hP, hK, hD0⟩ := hv
  have hts := atoms_spec (ws := ws_ y cc maxL ret) B.pre
  have hts : ∀ w ∈ lw_all, w.before As.toArray s = true := fun w h => hts w (List.mem_cons_of_mem _ h)
  have hl := lv_entry As (n := maxL) hlen
  rw [lg_entry_eq]
  subst hsz
  exact body p e s m below meth c (va_A W0 s.heap.size) _ B.exec B.bytes B.returns hml B.notSynchronized hts (findClass_of_methodNamed B.named) (name_of_methodNamed B.named B.method).1 rfl hP hK hD0.self va_S.rf (fun q h => Or.inr h) hl
theorem wk_mp {l : Launch} {y : MethodName} {cc : ByteArray} {maxL : Nat} {ret : Option FieldType} {rm : Room} {As : List Value} {D : va_G} {W0 : va_W} {tys : List (ClassId × FieldType)} {post : Int32 → Prop} (hy : plainName y.cls = true) (hlen : (lg_sl As).length ≤ maxL)
    (body : ∀ (p : Program) (e : Env) (s : State) (m : MethodId) (below : List Frame) (meth : Method) (c : Code) (ls : Array Slot), p.tables.exec = Jvm.exec → c.code = cc → meth.sig.returnType = ret → c.maxLocals = maxL → meth.locks = false → (∀ w ∈ lw_all, w.before As.toArray s = true) → s.vm.findClass y.cls = some m.cls → va_P D vwCl W0 s.heap → va_K D vwCl tys s → lv_has ls maxL (lv_args 0 As) →
      W p l e rm s m As.toArray below meth c s.heap [] 0 0 (MQ below (vp_Si post) As.toArray s 0 0 (fun _ => False)) (F0 m 0 ls [])) :
    wk_Mp l y cc maxL ret rm As D W0 tys post := by
  refine Met.ofW (cc := cc) (maxL := maxL) (ret := ret) hy rfl ?_
  intro p e s m args below meth c s₁ B hml hv
  obtain ⟨rfl, hP, hK⟩ := hv
  have hts := atoms_spec (ws := ws_ y cc maxL ret) B.pre
  have hts : ∀ w ∈ lw_all, w.before As.toArray s = true := fun w h => hts w (List.mem_cons_of_mem _ h)
  have hl := lv_entry As (n := maxL) hlen
  rw [lg_entry_eq]
  exact body p e s m below meth c _ B.exec B.bytes B.returns hml B.notSynchronized hts (findClass_of_methodNamed B.named) hP hK hl
section WK
variable {p : Program} {l : Launch} {e : Env} {R : Room} {s : State} {m : MethodId} {args : Array Value} {below : List Frame} {meth : Method} {c : Code} {H : Heap} {locs : List Loc} {cells slots : Nat} {Q : State → Prop}
variable {cc : ByteArray} {pc : Nat} {ls : Array Slot} {rest st0 : List Value} {D : va_G} {cl : List vw_C} {A A0 : Nat → Prop} {tys tr tc : List (ClassId × FieldType)} {ws wc wr : va_W} {H0 : Heap} {mc ms : Nat}
theorem wk_top {x y : Int32} (h : x = y) (kk : W p l e R s m args below meth c H locs cells slots Q (F0 m pc ls (.int y :: rest))) : W p l e R s m args below meth c H locs cells slots Q (F0 m pc ls (.int x :: rest)) := by
  subst h
  exact kk
theorem wk_topl {x y : Int64} (h : x = y) (kk : W p l e R s m args below meth c H locs cells slots Q (F0 m pc ls (.long y :: rest))) : W p l e R s m args below meth c H locs cells slots Q (F0 m pc ls (.long x :: rest)) := by
  subst h
  exact kk
theorem wk_iald (hexec : p.tables.exec = Jvm.exec) (hb : c.code = cc) (hK : va_K D cl tys s) (hP : va_P D cl ws H) (q0 t0 : Nat) {a : Nat} {cA : ClassId} {n : Nat} {f : Nat → Int32} (ha : ws[q0]? = some (a, .inl (cA, n, .inl f))) (ht : tys[t0]? = some (cA, .int)) {i : Nat} (hi : i < n) (hn : n < 2 ^ 31) (hdg : decode cc pc = .ok (.iaload, 1))
    (kk : W p l e R s m args below meth c H locs cells slots Q (F0 m (pc + 1) ls (.int (f i) :: rest))) : W p l e R s m args below meth c H locs cells slots Q (F0 m pc ls (.int (nI i) :: .ref a :: rest)) := by
  refine va_iald hexec hb hK hP q0 t0 ha ht (vp_in_nI hi hn) hdg ?_
  rw [nI_clamp (Nat.lt_trans hi hn)]
  exact kk
theorem wk_bald (hexec : p.tables.exec = Jvm.exec) (hb : c.code = cc) (hK : va_K D cl tys s) (hP : va_P D cl ws H) (q0 t0 : Nat) {a : Nat} {cA : ClassId} {n : Nat} {f : Nat → Int32} (ha : ws[q0]? = some (a, .inl (cA, n, .inl f))) (ht : tys[t0]? = some (cA, .byte)) {i : Nat} (hi : i < n) (hn : n < 2 ^ 31) (hdg : decode cc pc = .ok (.baload, 1))
    (kk : W p l e R s m args below meth c H locs cells slots Q (F0 m (pc + 1) ls (.int (f i) :: rest))) : W p l e R s m args below meth c H locs cells slots Q (F0 m pc ls (.int (nI i) :: .ref a :: rest)) := by
  refine va_bald hexec hb hK hP q0 t0 ha ht (vp_in_nI hi hn) hdg ?_
  rw [nI_clamp (Nat.lt_trans hi hn)]
  exact kk
theorem wk_iast (hexec : p.tables.exec = Jvm.exec) (hb : c.code = cc) (hK : va_K D cl tys s) (hP : va_P D cl ws H) (hD : va_D A ws) (hS : va_S A H0 H locs) (q0 t0 : Nat) {a : Nat} {cA : ClassId} {n : Nat} {f : Nat → Int32} (ha : ws[q0]? = some (a, .inl (cA, n, .inl f))) (ht : tys[t0]? = some (cA, .int)) {i : Nat} {x : Int32} (hi : i < n) (hn : n < 2 ^ 31) (hdg : decode cc pc = .ok (.iastore, 1))
    (kk : ∀ (H1 : Heap) (locs1 : List Loc), va_P D cl (ws.set q0 (a, .inl (cA, n, .inl (upd f i x)))) H1 → va_D A (ws.set q0 (a, .inl (cA, n, .inl (upd f i x)))) → va_S A H0 H1 locs1 → W p l e R s m args below meth c H1 locs1 cells slots Q (F0 m (pc + 1) ls rest)) : W p l e R s m args below meth c H locs cells slots Q (F0 m pc ls (.int x :: .int (nI i) :: .ref a :: rest)) := by
  refine va_iast hexec hb hK hP hD hS q0 t0 ha ht (vp_in_nI hi hn) hdg ?_
  rw [nI_clamp (Nat.lt_trans hi hn)]
  exact kk
theorem wk_bast (hexec : p.tables.exec = Jvm.exec) (hb : c.code = cc) (hK : va_K D cl tys s) (hP : va_P D cl ws H) (hD : va_D A ws) (hS : va_S A H0 H locs) (q0 t0 : Nat) {a : Nat} {cA : ClassId} {n : Nat} {f : Nat → Int32} (ha : ws[q0]? = some (a, .inl (cA, n, .inl f))) (ht : tys[t0]? = some (cA, .byte)) {i : Nat} {x : Int32} (hi : i < n) (hn : n < 2 ^ 31) (hdg : decode cc pc = .ok (.bastore, 1))
    (kk : ∀ (H1 : Heap) (locs1 : List Loc), va_P D cl (ws.set q0 (a, .inl (cA, n, .inl (upd f i (vp_nar .byte x))))) H1 → va_D A (ws.set q0 (a, .inl (cA, n, .inl (upd f i (vp_nar .byte x))))) → va_S A H0 H1 locs1 → W p l e R s m args below meth c H1 locs1 cells slots Q (F0 m (pc + 1) ls rest)) : W p l e R s m args below meth c H locs cells slots Q (F0 m pc ls (.int x :: .int (nI i) :: .ref a :: rest)) := by
  refine va_bast hexec hb hK hP hD hS q0 t0 ha ht (vp_in_nI hi hn) hdg ?_
  rw [nI_clamp (Nat.lt_trans hi hn)]
  exact kk
theorem wk_newI (hexec : p.tables.exec = Jvm.exec) (hb : c.code = cc) (harr : (Cond.arrayClass .int).before args s = true) (hK : va_K D cl tys s) (hP : va_P D cl ws H) (hD : va_D A ws) (hS : va_S A H0 H locs) (hA : ∀ q : Nat, H0.size ≤ q → A q) {n : Nat} (hn : n < 2 ^ 31) (hbytes : n * componentBytes .int ≤ 536870912) (hcells : cells + 1 ≤ R.cells) (hslots : slots + n ≤ R.slots) (hdg : decode cc pc = .ok (.newarray .int, 2))
    (kk : ∀ (q : Nat) (cA : ClassId) (H1 : Heap), va_K D cl (tys ++ [(cA, .int)]) s → va_P D cl (ws ++ [(q, .inl (cA, n, .inl (fun _ => 0)))]) H1 → va_D A (ws ++ [(q, .inl (cA, n, .inl (fun _ => 0)))]) → va_S A H0 H1 locs → W p l e R s m args below meth c H1 locs (cells + 1) (slots + n) Q (F0 m (pc + 2) ls (.ref q :: rest))) : W p l e R s m args below meth c H locs cells slots Q (F0 m pc ls (.int (nI n) :: rest)) :=
  va_newa (atype := .int) hexec hb harr (ty := .int) rfl hK hP hD hS hA (a0 := (n, .inl (fun _ => 0))) (fun _ => rfl) (nI_pos hn) (nI_clamp hn) hbytes hcells hslots hdg kk
theorem wk_newB (hexec : p.tables.exec = Jvm.exec) (hb : c.code = cc) (harr : (Cond.arrayClass .byte).before args s = true) (hK : va_K D cl tys s) (hP : va_P D cl ws H) (hD : va_D A ws) (hS : va_S A H0 H locs) (hA : ∀ q : Nat, H0.size ≤ q → A q) {n : Nat} (hn : n < 2 ^ 31) (hbytes : n * componentBytes .byte ≤ 536870912) (hcells : cells + 1 ≤ R.cells) (hslots : slots + n ≤ R.slots) (hdg : decode cc pc = .ok (.newarray .byte, 2))
    (kk : ∀ (q : Nat) (cA : ClassId) (H1 : Heap), va_K D cl (tys ++ [(cA, .byte)]) s → va_P D cl (ws ++ [(q, .inl (cA, n, .inl (fun _ => 0)))]) H1 → va_D A (ws ++ [(q, .inl (cA, n, .inl (fun _ => 0)))]) → va_S A H0 H1 locs → W p l e R s m args below meth c H1 locs (cells + 1) (slots + n) Q (F0 m (pc + 2) ls (.ref q :: rest))) : W p l e R s m args below meth c H locs cells slots Q (F0 m pc ls (.int (nI n) :: rest)) :=
  va_newa (atype := .byte) hexec hb harr (ty := .byte) rfl hK hP hD hS hA (a0 := (n, .inl (fun _ => 0))) (fun _ => rfl) (nI_pos hn) (nI_clamp hn) hbytes hcells hslots hdg kk
/-- cells that are only read stay as they are -/
theorem wk_ro (hP : va_P D cl ws H0) (hS : va_S A H0 H locs) (hA : ∀ q : Nat, q < H0.size → ¬ A q) : va_P D cl ws H := hP.kept (fun k q hk => hS.2.1 q.1 ((hP k q hk).lt) (hA q.1 ((hP k q hk).lt)))
theorem wk_blind {As : List Value} {sz : Nat} : FrameBlind (wk_Pc As sz D cl ws tys) := fun a U g mk q => by
  obtain ⟨q0, q1, qP, qK, qD⟩ := q
  exact ⟨q0, q1, qP, va_K.moved (u := U) (U := U.calling g mk a) (Vm.Alike.refl U.vm) qK, qD⟩
theorem wk_blindp {As : List Value} : FrameBlind (wk_Pp As D cl ws tys) := fun a U g mk q => by
  obtain ⟨q0, qP, qK⟩ := q
  exact ⟨q0, qP, va_K.moved (u := U) (U := U.calling g mk a) (Vm.Alike.refl U.vm) qK⟩
theorem wk_preS {As : List Value} (hP : va_P D cl ws H) (hK : va_K D cl tys s) (hD : va_D A ws) : PreS s H (wk_Pc As H.size D cl ws tys) As :=
  ⟨wk_blind, fun U hU hW => ⟨rfl, by rw [hU], by rw [hU]; exact hP, va_K.moved hW.alike hK, hD.weaken (fun _ _ _ _ => trivial)⟩⟩
theorem wk_preSp {As : List Value} (hP : va_P D cl ws H) (hK : va_K D cl tys s) : PreS s H (wk_Pp As D cl ws tys) As :=
  ⟨wk_blindp, fun U hU hW => ⟨rfl, by rw [hU]; exact hP, va_K.moved hW.alike hK⟩⟩
theorem wk_preV {C : String} {b : Nat} {As : List Value} (hr : ∃ cell : Cell, H[b]? = some cell ∧ cell.vm.isStatics = false ∧ s.vm.findClass C = some cell.cls) (hP : va_P D cl ws H) (hK : va_K D cl tys s) (hD : va_D A ws) : PreV s H C b (wk_Pc (.ref b :: As) H.size D cl ws tys) As :=
  ⟨wk_blind, hr, fun U hU hW => ⟨rfl, by rw [hU], by rw [hU]; exact hP, va_K.moved hW.alike hK, hD.weaken (fun _ _ _ _ => trivial)⟩⟩
theorem wk_preVp {C : String} {b : Nat} {As : List Value} (hr : ∃ cell : Cell, H[b]? = some cell ∧ cell.vm.isStatics = false ∧ s.vm.findClass C = some cell.cls) (hP : va_P D cl ws H) (hK : va_K D cl tys s) : PreV s H C b (wk_Pp (.ref b :: As) D cl ws tys) As :=
  ⟨wk_blindp, hr, fun U hU hW => ⟨rfl, by rw [hU]; exact hP, va_K.moved hW.alike hK⟩⟩
/-- behind a void call: what came back stands beside the rest -/
theorem wk_callv {S : Type} {a : Array Value} {post : S → Prop} {w1 : S → va_W} {t1 : S → List (ClassId × FieldType)} (hr : va_Run p l e R s m args below meth c H locs cells slots mc ms (F0 m pc ls st0) rest (va_Qv post (wk_B D cl (va_A wc H.size) w1 t1) (va_A wc H.size) a) (va_A wc H.size)) (hP : va_P D cl ws H) (hD : va_D A0 ws) (hS : va_S A0 H0 H locs) (hA : ∀ q : Nat, H0.size ≤ q → A0 q) (hK : va_K D cl tys s) (isC isR isK : List Nat) (hC : isC.map (fun i => ws[i]?) = wc.map some) (hR : isR.map (fun i => ws[i]?) = wr.map some) (hn : va_nd isR = true) (hdis : ∀ i ∈ isR, i ∉ isC) (hs : isK.filterMap (fun i => tys[i]?) = tr)
    (kk : ∀ (u : S) (H1 : Heap) (locs1 : List Loc), post u → va_P D cl (wr ++ w1 u) H1 → va_K D cl (tr ++ t1 u) s → va_D A0 (wr ++ w1 u) → va_S A0 H0 H1 locs1 → W p l e R s m args below meth c H1 locs1 (cells + mc) (slots + ms) Q (F0 m (pc + 3) ls rest)) : W p l e R s m args below meth c H locs cells slots Q (F0 m pc ls st0) := by
  have hF := va_free (wc := wc) hD hS hA isC hC
  refine va_callv hr hS (fun q _ h => hF q h) hF (fun u t H1 locs ht hvm hw hB hz hk hS => ?_)
  obtain ⟨hP1, hK1, hD1⟩ := hB
  rw [ht] at hP1
  have hK1 := va_K.moved hvm.symm hK1
  obtain ⟨hP, hD⟩ := va_join (wr := wr) hP hD isC isR hC hR hn hdis hk hF hP1 hD1
  exact kk u H1 locs hw hP ((hK.sub isK hs).app hK1) hD hS
theorem wk_calli {S : Type} {a : Array Value} {post : Int32 → S → Prop} {w1 : S → va_W} {t1 : S → List (ClassId × FieldType)} (hr : va_Run p l e R s m args below meth c H locs cells slots mc ms (F0 m pc ls st0) rest (va_Qi post (wk_B D cl (va_A wc H.size) w1 t1) (va_A wc H.size) a) (va_A wc H.size)) (hP : va_P D cl ws H) (hD : va_D A0 ws) (hS : va_S A0 H0 H locs) (hA : ∀ q : Nat, H0.size ≤ q → A0 q) (hK : va_K D cl tys s) (isC isR isK : List Nat) (hC : isC.map (fun i => ws[i]?) = wc.map some) (hR : isR.map (fun i => ws[i]?) = wr.map some) (hn : va_nd isR = true) (hdis : ∀ i ∈ isR, i ∉ isC) (hs : isK.filterMap (fun i => tys[i]?) = tr)
    (kk : ∀ (r : Int32) (u : S) (H1 : Heap) (locs1 : List Loc), post r u → va_P D cl (wr ++ w1 u) H1 → va_K D cl (tr ++ t1 u) s → va_D A0 (wr ++ w1 u) → va_S A0 H0 H1 locs1 → W p l e R s m args below meth c H1 locs1 (cells + mc) (slots + ms) Q (F0 m (pc + 3) ls (.int r :: rest))) : W p l e R s m args below meth c H locs cells slots Q (F0 m pc ls st0) := by
  have hF := va_free (wc := wc) hD hS hA isC hC
  refine va_calli hr hS (fun q _ h => hF q h) hF (fun r u t H1 locs ht hvm hw hB hz hk hS => ?_)
  obtain ⟨hP1, hK1, hD1⟩ := hB
  rw [ht] at hP1
  have hK1 := va_K.moved hvm.symm hK1
  obtain ⟨hP, hD⟩ := va_join (wr := wr) hP hD isC isR hC hR hn hdis hk hF hP1 hD1
  exact kk r u H1 locs hw hP ((hK.sub isK hs).app hK1) hD hS
theorem wk_callr {S : Type} {a : Array Value} {post : S → Prop} {w1 : S → Nat → va_W} {t1 : S → List (ClassId × FieldType)} (hr : va_Run p l e R s m args below meth c H locs cells slots mc ms (F0 m pc ls st0) rest (va_Qr post (wk_R D cl (va_A wc H.size) w1 t1) (va_A wc H.size) a) (va_A wc H.size)) (hP : va_P D cl ws H) (hD : va_D A0 ws) (hS : va_S A0 H0 H locs) (hA : ∀ q : Nat, H0.size ≤ q → A0 q) (hK : va_K D cl tys s) (isC isR isK : List Nat) (hC : isC.map (fun i => ws[i]?) = wc.map some) (hR : isR.map (fun i => ws[i]?) = wr.map some) (hn : va_nd isR = true) (hdis : ∀ i ∈ isR, i ∉ isC) (hs : isK.filterMap (fun i => tys[i]?) = tr)
    (kk : ∀ (u : S) (ra : Nat) (H1 : Heap) (locs1 : List Loc), post u → va_P D cl (wr ++ w1 u ra) H1 → va_K D cl (tr ++ t1 u) s → va_D A0 (wr ++ w1 u ra) → va_S A0 H0 H1 locs1 → W p l e R s m args below meth c H1 locs1 (cells + mc) (slots + ms) Q (F0 m (pc + 3) ls (.ref ra :: rest))) : W p l e R s m args below meth c H locs cells slots Q (F0 m pc ls st0) := by
  have hF := va_free (wc := wc) hD hS hA isC hC
  refine va_callr hr hS (fun q _ h => hF q h) hF (fun u ra t H1 locs ht hvm hw hB hz hk hS => ?_)
  obtain ⟨hP1, hK1, hD1⟩ := hB
  rw [ht] at hP1
  have hK1 := va_K.moved hvm.symm hK1
  obtain ⟨hP, hD⟩ := va_join (wr := wr) hP hD isC isR hC hR hn hdis hk hF hP1 hD1
  exact kk u ra H1 locs hw hP ((hK.sub isK hs).app hK1) hD hS
/-- ends -/
theorem wk_endv {S : Type} {post : S → Prop} {w1 : S → va_W} {t1 : S → List (ClassId × FieldType)} (u : S) (hexec : p.tables.exec = Jvm.exec) (hb : c.code = cc) (hr : meth.sig.returnType = none) (hlocks : meth.locks = false) (hP : va_P D cl (w1 u) H) (hK : va_K D cl (t1 u) s) (hD : va_D A (w1 u)) (hS : va_S A s.heap H locs) (hpost : post u) (hc : cells ≤ mc) (hs : slots ≤ ms) (hdg : decode cc pc = .ok (.return_, 1)) :
    W p l e R s m args below meth c H locs cells slots (MQ below (va_Qv post (wk_B D cl A w1 t1) A) args s mc ms A) (F0 m pc ls []) :=
  W.widen hc hs (W.vret hexec hb hr (fun t ht hW => ⟨⟨u, rfl, hpost, by rw [ht]; exact hP, va_K.moved hW.alike hK, hD⟩, hS.F ht⟩) hS.2.2 hdg hlocks)
theorem wk_endz {S : Type} {post : Int32 → S → Prop} {w1 : S → va_W} {t1 : S → List (ClassId × FieldType)} (u : S) {v : Int32} {ty : FieldType} (hexec : p.tables.exec = Jvm.exec) (hb : c.code = cc) (hr : meth.sig.returnType = some ty) (hnar : narrow ty (.int v) = .int v) (hlocks : meth.locks = false) (hP : va_P D cl (w1 u) H) (hK : va_K D cl (t1 u) s) (hD : va_D A (w1 u)) (hS : va_S A s.heap H locs) (hpost : post v u) (hc : cells ≤ mc) (hs : slots ≤ ms) (hdg : decode cc pc = .ok (.ireturn, 1)) :
    W p l e R s m args below meth c H locs cells slots (MQ below (va_Qi post (wk_B D cl A w1 t1) A) args s mc ms A) (F0 m pc ls [.int v]) :=
  W.widen hc hs (W.zret hexec hb hr hnar (fun t ht hW => ⟨⟨v, u, rfl, hpost, by rw [ht]; exact hP, va_K.moved hW.alike hK, hD⟩, hS.F ht⟩) hS.2.2 hdg hlocks)
theorem wk_endr {S : Type} {post : S → Prop} {w1 : S → Nat → va_W} {t1 : S → List (ClassId × FieldType)} (u : S) {a : Nat} {rt : FieldType} (hexec : p.tables.exec = Jvm.exec) (hb : c.code = cc) (hr : meth.sig.returnType = some (.array rt)) (hlocks : meth.locks = false) (hP : va_P D cl (w1 u a) H) (hK : va_K D cl (t1 u) s) (hD : va_D A (w1 u a)) (hS : va_S A s.heap H locs) (hpost : post u) (hc : cells ≤ mc) (hs : slots ≤ ms) (hdg : decode cc pc = .ok (.areturn, 1)) :
    W p l e R s m args below meth c H locs cells slots (MQ below (va_Qr post (wk_R D cl A w1 t1) A) args s mc ms A) (F0 m pc ls [.ref a]) :=
  W.widen hc hs (W.aret hexec hb hr (Or.inr ⟨rt, rfl⟩) (Or.inr ⟨a, rfl⟩) (fun t ht hW => ⟨⟨u, a, rfl, hpost, by rw [ht]; exact hP, va_K.moved hW.alike hK, hD⟩, hS.F ht⟩) hS.2.2 hdg hlocks)
theorem wk_endp {post : Int32 → Prop} {v : Int32} {ty : FieldType} (hexec : p.tables.exec = Jvm.exec) (hb : c.code = cc) (hr : meth.sig.returnType = some ty) (hnar : narrow ty (.int v) = .int v) (hlocks : meth.locks = false) (hpost : post v) (hdg : decode cc pc = .ok (.ireturn, 1)) :
    W p l e R s m args below meth c s.heap [] 0 0 (MQ below (vp_Si post) args s 0 0 (fun _ => False)) (F0 m pc ls [.int v]) :=
  W.zret hexec hb hr hnar (fun t ht hW => ⟨v, rfl, hpost, ht⟩) (fun q h => by cases h) hdg hlocks
end WK
end
section
/-! WnafDesk: its methods but find -/
theorem wn_andm1 (x : Int32) : x &&& (-1) = x := by
  rw [pk_and x (m := -1) 32 (by decide)]
  exact (wn_u_eq (x := x) (n := x.toBitVec.toNat % 2 ^ 32) (Nat.mod_eq_of_lt x.toBitVec.isLt).symm).symm
set_option maxHeartbeats 4000000 in
set_option maxRecDepth 100000 in
/-- digit(i): the digit at place i, by its lowest 31 places modulo 253 -/
theorem met_digit (l : Launch) (dC : Nat → ClassId) (dI : Nat → Nat → Nat) (h0 hn hd : Nat) (wv : Int32) (dd : ClassId) (g : Nat → Int32) (i : Int32) : wk_Mp l yX1_digit cX1_digit 2 (some .int) ({ frames := 0, cells := 0, slots := 0, locals := 0 } : Room) [.ref h0, .int i] (dC, dI) [(h0, .inr (0, [.ref hn, .ref hd, .int wv])), (hd, .inl (dd, 253, .inl g))] [(dd, .byte)] (fun r => r = g (wn_u i % 2 ^ 31 % 253)) := by
  refine wk_mp (by decide) (Nat.le_of_ble_eq_true rfl) ?_
  intro p e s m below meth c ls hx hb hr hml hlocks hts hown hP hK hl
  have hl : lv_has ls 2 [(0, .ref h0), (1, .int i)] := hl
  have hown : s.vm.findClass RX1 = some m.cls := hown
  refine lv_aload_n hx hb dX1_digit_0 rfl (lv_at hl 0 rfl) ?_
  refine va_get (D := (dC, dI)) (ci := 0) (v := .ref hd) (C := RX1) (T := TX1) (N := 3) hx hb hts in_X1 hown hK hP 0 rfl rfl 1 (by decide) (hts _ q12) (fun _ h9 => h9) rfl dX1_digit_1 ?_
  refine lv_iload_n hx hb dX1_digit_4 rfl (lv_at hl 1 rfl) ?_
  refine lv_ldc (v := 2147483647) hx hb hown (hts _ q27) dX1_digit_5 ?_
  refine lv_iand hx hb dX1_digit_7 ?_
  refine wk_top (y := nI (wn_u i % 2 ^ 31)) (pk_and i (m := 2147483647) 31 (by decide)) ?_
  refine lv_sipush (v := nI 253) hx hb dX1_digit_8 (by decide) ?_
  refine lv_irem hx hb dX1_digit_11 (by decide) ?_
  refine wk_top (y := nI (wn_u i % 2 ^ 31 % 253)) (pk_rem (Nat.mod_lt _ (by decide)) (by decide) (by decide)) ?_
  refine wk_bald hx hb hK hP 1 0 rfl rfl (i := (wn_u i % 2 ^ 31 % 253)) (Nat.mod_lt _ (by decide)) (by decide) dX1_digit_12 ?_
  exact wk_endp hx hb hr rfl hlocks rfl dX1_digit_13
set_option maxHeartbeats 4000000 in
set_option maxRecDepth 100000 in
/-- width(): the width -/
theorem met_width (l : Launch) (dC : Nat → ClassId) (dI : Nat → Nat → Nat) (h0 hn hd : Nat) (wv : Int32) : wk_Mp l yX1_width cX1_width 1 (some .int) ({ frames := 0, cells := 0, slots := 0, locals := 0 } : Room) [.ref h0] (dC, dI) [(h0, .inr (0, [.ref hn, .ref hd, .int wv]))] [] (fun r => r = wv) := by
  refine wk_mp (by decide) (Nat.le_of_ble_eq_true rfl) ?_
  intro p e s m below meth c ls hx hb hr hml hlocks hts hown hP hK hl
  have hl : lv_has ls 1 [(0, .ref h0)] := hl
  have hown : s.vm.findClass RX1 = some m.cls := hown
  refine lv_aload_n hx hb dX1_width_0 rfl (lv_at hl 0 rfl) ?_
  refine va_get (D := (dC, dI)) (ci := 0) (v := .int wv) (C := RX1) (T := TX1) (N := 3) hx hb hts in_X1 hown hK hP 0 rfl rfl 2 (by decide) (hts _ q13) (fun _ h9 => h9) rfl dX1_width_1 ?_
  exact wk_endp hx hb hr rfl hlocks rfl dX1_width_4
set_option maxHeartbeats 4000000 in
set_option maxRecDepth 100000 in
/-- WnafDesk(): eight words and 253 digits, all 0; width 4 -/
theorem met_init (l : Launch) (dC : Nat → ClassId) (dI : Nat → Nat → Nat) (h0 sz : Nat) : wk_Mv l yX1_init cX1_init 1 ({ frames := 1, cells := 2, slots := 261, locals := 12 } : Room) [.ref h0] sz (dC, dI) [(h0, .inr (0, [.null, .null, .int 0]))] [] (fun _ : Nat × ClassId × Nat × ClassId => True) (fun u : Nat × ClassId × Nat × ClassId => [(h0, .inr (0, [.ref u.1, .ref u.2.2.1, .int (nI 4)])), (u.1, .inl (u.2.1, 8, .inl (fun _ => 0))), (u.2.2.1, .inl (u.2.2.2, 253, .inl (fun _ => 0)))]) (fun u : Nat × ClassId × Nat × ClassId => [(u.2.1, .int), (u.2.2.2, .byte)]) 2 261 := by
  refine wk_met0 (fun A => va_Qv (fun _ : Nat × ClassId × Nat × ClassId => True) (wk_B (dC, dI) vwCl A (fun u : Nat × ClassId × Nat × ClassId => [(h0, .inr (0, [.ref u.1, .ref u.2.2.1, .int (nI 4)])), (u.1, .inl (u.2.1, 8, .inl (fun _ => 0))), (u.2.2.1, .inl (u.2.2.2, 253, .inl (fun _ => 0)))]) (fun u : Nat × ClassId × Nat × ClassId => [(u.2.1, .int), (u.2.2.2, .byte)])) A) (by decide) (Nat.le_of_ble_eq_true rfl) ?_
  intro p e s m below meth c A ls hx hb hr hml hlocks hts hown hnm hsz hP hK hD hS hA hl
  have hl : lv_has ls 1 [(0, .ref h0)] := hl
  have hown : s.vm.findClass RX1 = some m.cls := hown
  have hP : va_P (dC, dI) vwCl [(h0, .inr (0, [.null, .null, .int 0]))] s.heap := hP
  have hD : va_D A [(h0, .inr (0, [.null, .null, .int 0]))] := hD
  have hin : meth.name = "<init>" := hnm
  refine lv_aload_n hx hb dX1_init_0 rfl (lv_at hl 0 rfl) ?_
  refine W.objInit hx hb hown (hts _ q8) (hts _ q9) (hts _ q10) rfl (by rw [hml]; exact hl.1) rfl dX1_init_1 (Nat.le_of_ble_eq_true rfl) (Nat.le_of_ble_eq_true rfl) ?_
  refine W.eq (g2 := F0 m 4 ls []) rfl ?_
  refine lv_aload_n hx hb dX1_init_4 rfl (lv_at hl 0 rfl) ?_
  refine lv_bipush (v := nI 8) hx hb dX1_init_5 (by decide) ?_
  refine wk_newI hx hb (hts _ q21) hK hP hD hS hA (n := 8) (by decide) (Nat.le_of_ble_eq_true rfl) (Nat.le_of_ble_eq_true rfl) (Nat.le_of_ble_eq_true rfl) dX1_init_7 (fun q1 c1 H hK hP hD hS => ?_)
  have hK : va_K (dC, dI) vwCl [(c1, .int)] s := hK
  have hP : va_P (dC, dI) vwCl [(h0, .inr (0, [.null, .null, .int 0])), (q1, .inl (c1, 8, .inl (fun _ => 0)))] H := hP
  have hD : va_D A [(h0, .inr (0, [.null, .null, .int 0])), (q1, .inl (c1, 8, .inl (fun _ => 0)))] := hD
  refine va_putF (D := (dC, dI)) (ci := 0) (v := .ref q1) (ty := .array .int) (C := RX1) (T := TX1) (N := 3) hx hb hts in_X1 tyX1 tyX1_ok nmX1 hown hK hP hD hS 0 rfl rfl 0 (by decide) (hts _ q11) (fun _ h9 => h9) rfl hin rfl (by decide +kernel) rfl rfl (Nat.le_of_ble_eq_true rfl) dX1_init_9 (fun H locs hP hD hS => ?_)
  have hP : va_P (dC, dI) vwCl [(h0, .inr (0, [.ref q1, .null, .int 0])), (q1, .inl (c1, 8, .inl (fun _ => 0)))] H := hP
  have hD : va_D A [(h0, .inr (0, [.ref q1, .null, .int 0])), (q1, .inl (c1, 8, .inl (fun _ => 0)))] := hD
  refine lv_aload_n hx hb dX1_init_12 rfl (lv_at hl 0 rfl) ?_
  refine lv_sipush (v := nI 253) hx hb dX1_init_13 (by decide) ?_
  refine wk_newB hx hb (hts _ q22) hK hP hD hS hA (n := 253) (by decide) (Nat.le_of_ble_eq_true rfl) (Nat.le_of_ble_eq_true rfl) (Nat.le_of_ble_eq_true rfl) dX1_init_16 (fun q2 c2 H hK hP hD hS => ?_)
  have hK : va_K (dC, dI) vwCl [(c1, .int), (c2, .byte)] s := hK
  have hP : va_P (dC, dI) vwCl [(h0, .inr (0, [.ref q1, .null, .int 0])), (q1, .inl (c1, 8, .inl (fun _ => 0))), (q2, .inl (c2, 253, .inl (fun _ => 0)))] H := hP
  have hD : va_D A [(h0, .inr (0, [.ref q1, .null, .int 0])), (q1, .inl (c1, 8, .inl (fun _ => 0))), (q2, .inl (c2, 253, .inl (fun _ => 0)))] := hD
  refine va_put (D := (dC, dI)) (ci := 0) (v := .ref q2) (ty := .array .byte) (C := RX1) (T := TX1) (N := 3) hx hb hts in_X1 tyX1 tyX1_ok nmX1 hown hK hP hD hS 0 rfl rfl 1 (by decide) (hts _ q12) (fun _ h9 => h9) rfl (by decide +kernel) rfl rfl (Nat.le_of_ble_eq_true rfl) dX1_init_18 (fun H locs hP hD hS => ?_)
  have hP : va_P (dC, dI) vwCl [(h0, .inr (0, [.ref q1, .ref q2, .int 0])), (q1, .inl (c1, 8, .inl (fun _ => 0))), (q2, .inl (c2, 253, .inl (fun _ => 0)))] H := hP
  have hD : va_D A [(h0, .inr (0, [.ref q1, .ref q2, .int 0])), (q1, .inl (c1, 8, .inl (fun _ => 0))), (q2, .inl (c2, 253, .inl (fun _ => 0)))] := hD
  refine lv_aload_n hx hb dX1_init_21 rfl (lv_at hl 0 rfl) ?_
  refine lv_iconst (v := nI 4) hx hb dX1_init_22 (by decide) ?_
  refine va_put (D := (dC, dI)) (ci := 0) (v := .int (nI 4)) (ty := .int) (C := RX1) (T := TX1) (N := 3) hx hb hts in_X1 tyX1 tyX1_ok nmX1 hown hK hP hD hS 0 rfl rfl 2 (by decide) (hts _ q13) (fun _ h9 => h9) rfl (by decide +kernel) rfl rfl (Nat.le_of_ble_eq_true rfl) dX1_init_23 (fun H locs hP hD hS => ?_)
  have hP : va_P (dC, dI) vwCl [(h0, .inr (0, [.ref q1, .ref q2, .int (nI 4)])), (q1, .inl (c1, 8, .inl (fun _ => 0))), (q2, .inl (c2, 253, .inl (fun _ => 0)))] H := hP
  have hD : va_D A [(h0, .inr (0, [.ref q1, .ref q2, .int (nI 4)])), (q1, .inl (c1, 8, .inl (fun _ => 0))), (q2, .inl (c2, 253, .inl (fun _ => 0)))] := hD
  exact wk_endv (q1, c1, q2, c2) hx hb hr hlocks hP hK hD hS trivial (Nat.le_of_ble_eq_true rfl) (Nat.le_of_ble_eq_true rfl) dX1_init_26
set_option maxHeartbeats 4000000 in
set_option maxRecDepth 100000 in
/-- lay(0, ..): words 0 to 3 -/
theorem met_lay0 (l : Launch) (dC : Nat → ClassId) (dI : Nat → Nat → Nat) (h0 hn hd : Nat) (wv : Int32) (dn : ClassId) (f : Nat → Int32) (sz : Nat) (x0 x1 x2 x3 : Int32) : wk_Mv l yX1_lay cX1_lay 7 ({ frames := 0, cells := 0, slots := 0, locals := 0 } : Room) [.ref h0, .int (nI 0), .int x0, .int x1, .int x2, .int x3] sz (dC, dI) [(h0, .inr (0, [.ref hn, .ref hd, .int wv])), (hn, .inl (dn, 8, .inl f))] [(dn, .int)] (fun _ : Unit => True) (fun _ : Unit => [(h0, .inr (0, [.ref hn, .ref hd, .int wv])), (hn, .inl (dn, 8, .inl (upd (upd (upd (upd f 0 x0) 1 x1) 2 x2) 3 x3)))]) (fun _ : Unit => [(dn, .int)]) 0 0 := by
  refine wk_met0 (fun A => va_Qv (fun _ : Unit => True) (wk_B (dC, dI) vwCl A (fun _ : Unit => [(h0, .inr (0, [.ref hn, .ref hd, .int wv])), (hn, .inl (dn, 8, .inl (upd (upd (upd (upd f 0 x0) 1 x1) 2 x2) 3 x3)))]) (fun _ : Unit => [(dn, .int)])) A) (by decide) (Nat.le_of_ble_eq_true rfl) ?_
  intro p e s m below meth c A ls hx hb hr hml hlocks hts hown hnm hsz hP hK hD hS hA hl
  have hl : lv_has ls 7 [(0, .ref h0), (1, .int (nI 0)), (2, .int x0), (3, .int x1), (4, .int x2), (5, .int x3)] := hl
  have hown : s.vm.findClass RX1 = some m.cls := hown
  have hP : va_P (dC, dI) vwCl [(h0, .inr (0, [.ref hn, .ref hd, .int wv])), (hn, .inl (dn, 8, .inl f))] s.heap := hP
  have hD : va_D A [(h0, .inr (0, [.ref hn, .ref hd, .int wv])), (hn, .inl (dn, 8, .inl f))] := hD
  refine lv_iload_n hx hb dX1_lay_0 rfl (lv_at hl 1 rfl) ?_
  refine lv_iconst (v := nI 1) hx hb dX1_lay_1 (by decide) ?_
  refine lv_iand hx hb dX1_lay_2 ?_
  refine wk_top (y := nI 0) (by decide) ?_
  refine lv_iconst (v := nI 2) hx hb dX1_lay_3 (by decide) ?_
  refine lv_ishl hx hb dX1_lay_4 ?_
  refine wk_top (y := nI 0) (by decide) ?_
  refine lv_istore (lv' := [(6, .int (nI 0)), (0, .ref h0), (1, .int (nI 0)), (2, .int x0), (3, .int x1), (4, .int x2), (5, .int x3)]) hx hb dX1_lay_5 hl (by decide) rfl (fun ls hl => ?_)
  refine lv_aload_n hx hb dX1_lay_7 rfl (lv_at hl 1 rfl) ?_
  refine va_get (D := (dC, dI)) (ci := 0) (v := .ref hn) (C := RX1) (T := TX1) (N := 3) hx hb hts in_X1 hown hK hP 0 rfl rfl 0 (by decide) (hts _ q11) (fun _ h9 => h9) rfl dX1_lay_8 ?_
  refine lv_iload hx hb dX1_lay_11 (lv_at hl 0 rfl) ?_
  refine lv_iload_n hx hb dX1_lay_13 rfl (lv_at hl 3 rfl) ?_
  refine wk_iast hx hb hK hP hD hS 1 0 rfl rfl (i := 0) (by decide) (by decide) dX1_lay_14 (fun H locs hP hD hS => ?_)
  have hP : va_P (dC, dI) vwCl [(h0, .inr (0, [.ref hn, .ref hd, .int wv])), (hn, .inl (dn, 8, .inl (upd f 0 x0)))] H := hP
  have hD : va_D A [(h0, .inr (0, [.ref hn, .ref hd, .int wv])), (hn, .inl (dn, 8, .inl (upd f 0 x0)))] := hD
  refine lv_aload_n hx hb dX1_lay_15 rfl (lv_at hl 1 rfl) ?_
  refine va_get (D := (dC, dI)) (ci := 0) (v := .ref hn) (C := RX1) (T := TX1) (N := 3) hx hb hts in_X1 hown hK hP 0 rfl rfl 0 (by decide) (hts _ q11) (fun _ h9 => h9) rfl dX1_lay_16 ?_
  refine lv_iload hx hb dX1_lay_19 (lv_at hl 0 rfl) ?_
  refine lv_iconst (v := nI 1) hx hb dX1_lay_21 (by decide) ?_
  refine lv_iadd hx hb dX1_lay_22 ?_
  refine wk_top (y := nI 1) (by decide) ?_
  refine lv_iload_n hx hb dX1_lay_23 rfl (lv_at hl 4 rfl) ?_
  refine wk_iast hx hb hK hP hD hS 1 0 rfl rfl (i := 1) (by decide) (by decide) dX1_lay_24 (fun H locs hP hD hS => ?_)
  have hP : va_P (dC, dI) vwCl [(h0, .inr (0, [.ref hn, .ref hd, .int wv])), (hn, .inl (dn, 8, .inl (upd (upd f 0 x0) 1 x1)))] H := hP
  have hD : va_D A [(h0, .inr (0, [.ref hn, .ref hd, .int wv])), (hn, .inl (dn, 8, .inl (upd (upd f 0 x0) 1 x1)))] := hD
  refine lv_aload_n hx hb dX1_lay_25 rfl (lv_at hl 1 rfl) ?_
  refine va_get (D := (dC, dI)) (ci := 0) (v := .ref hn) (C := RX1) (T := TX1) (N := 3) hx hb hts in_X1 hown hK hP 0 rfl rfl 0 (by decide) (hts _ q11) (fun _ h9 => h9) rfl dX1_lay_26 ?_
  refine lv_iload hx hb dX1_lay_29 (lv_at hl 0 rfl) ?_
  refine lv_iconst (v := nI 2) hx hb dX1_lay_31 (by decide) ?_
  refine lv_iadd hx hb dX1_lay_32 ?_
  refine wk_top (y := nI 2) (by decide) ?_
  refine lv_iload hx hb dX1_lay_33 (lv_at hl 5 rfl) ?_
  refine wk_iast hx hb hK hP hD hS 1 0 rfl rfl (i := 2) (by decide) (by decide) dX1_lay_35 (fun H locs hP hD hS => ?_)
  have hP : va_P (dC, dI) vwCl [(h0, .inr (0, [.ref hn, .ref hd, .int wv])), (hn, .inl (dn, 8, .inl (upd (upd (upd f 0 x0) 1 x1) 2 x2)))] H := hP
  have hD : va_D A [(h0, .inr (0, [.ref hn, .ref hd, .int wv])), (hn, .inl (dn, 8, .inl (upd (upd (upd f 0 x0) 1 x1) 2 x2)))] := hD
  refine lv_aload_n hx hb dX1_lay_36 rfl (lv_at hl 1 rfl) ?_
  refine va_get (D := (dC, dI)) (ci := 0) (v := .ref hn) (C := RX1) (T := TX1) (N := 3) hx hb hts in_X1 hown hK hP 0 rfl rfl 0 (by decide) (hts _ q11) (fun _ h9 => h9) rfl dX1_lay_37 ?_
  refine lv_iload hx hb dX1_lay_40 (lv_at hl 0 rfl) ?_
  refine lv_iconst (v := nI 3) hx hb dX1_lay_42 (by decide) ?_
  refine lv_iadd hx hb dX1_lay_43 ?_
  refine wk_top (y := nI 3) (by decide) ?_
  refine lv_iload hx hb dX1_lay_44 (lv_at hl 6 rfl) ?_
  refine lv_iload hx hb dX1_lay_46 (lv_at hl 0 rfl) ?_
  refine lv_if_ne (tgt := 55) hx hb dX1_lay_48 (by decide) (fun c_ => absurd (by decide) c_) (fun _ => ?_)
  refine lv_iconst (v := -1) hx hb dX1_lay_51 (by decide) ?_
  refine lv_goto (tgt := 57) hx hb dX1_lay_52 (by decide) ?_
  refine lv_iand hx hb dX1_lay_57 ?_
  refine wk_top (y := x3) (wn_andm1 x3) ?_
  refine wk_iast hx hb hK hP hD hS 1 0 rfl rfl (i := 3) (by decide) (by decide) dX1_lay_58 (fun H locs hP hD hS => ?_)
  have hP : va_P (dC, dI) vwCl [(h0, .inr (0, [.ref hn, .ref hd, .int wv])), (hn, .inl (dn, 8, .inl (upd (upd (upd (upd f 0 x0) 1 x1) 2 x2) 3 x3)))] H := hP
  have hD : va_D A [(h0, .inr (0, [.ref hn, .ref hd, .int wv])), (hn, .inl (dn, 8, .inl (upd (upd (upd (upd f 0 x0) 1 x1) 2 x2) 3 x3)))] := hD
  exact wk_endv () hx hb hr hlocks hP hK hD hS trivial (Nat.le_of_ble_eq_true rfl) (Nat.le_of_ble_eq_true rfl) dX1_lay_59
set_option maxHeartbeats 4000000 in
set_option maxRecDepth 100000 in
/-- lay(1, ..): words 4 to 7 -/
theorem met_lay1 (l : Launch) (dC : Nat → ClassId) (dI : Nat → Nat → Nat) (h0 hn hd : Nat) (wv : Int32) (dn : ClassId) (f : Nat → Int32) (sz : Nat) (x0 x1 x2 x3 : Int32) : wk_Mv l yX1_lay cX1_lay 7 ({ frames := 0, cells := 0, slots := 0, locals := 0 } : Room) [.ref h0, .int (nI 1), .int x0, .int x1, .int x2, .int x3] sz (dC, dI) [(h0, .inr (0, [.ref hn, .ref hd, .int wv])), (hn, .inl (dn, 8, .inl f))] [(dn, .int)] (fun _ : Unit => True) (fun _ : Unit => [(h0, .inr (0, [.ref hn, .ref hd, .int wv])), (hn, .inl (dn, 8, .inl (upd (upd (upd (upd f 4 x0) 5 x1) 6 x2) 7 (x3 &&& 268435455))))]) (fun _ : Unit => [(dn, .int)]) 0 0 := by
  refine wk_met0 (fun A => va_Qv (fun _ : Unit => True) (wk_B (dC, dI) vwCl A (fun _ : Unit => [(h0, .inr (0, [.ref hn, .ref hd, .int wv])), (hn, .inl (dn, 8, .inl (upd (upd (upd (upd f 4 x0) 5 x1) 6 x2) 7 (x3 &&& 268435455))))]) (fun _ : Unit => [(dn, .int)])) A) (by decide) (Nat.le_of_ble_eq_true rfl) ?_
  intro p e s m below meth c A ls hx hb hr hml hlocks hts hown hnm hsz hP hK hD hS hA hl
  have hl : lv_has ls 7 [(0, .ref h0), (1, .int (nI 1)), (2, .int x0), (3, .int x1), (4, .int x2), (5, .int x3)] := hl
  have hown : s.vm.findClass RX1 = some m.cls := hown
  have hP : va_P (dC, dI) vwCl [(h0, .inr (0, [.ref hn, .ref hd, .int wv])), (hn, .inl (dn, 8, .inl f))] s.heap := hP
  have hD : va_D A [(h0, .inr (0, [.ref hn, .ref hd, .int wv])), (hn, .inl (dn, 8, .inl f))] := hD
  refine lv_iload_n hx hb dX1_lay_0 rfl (lv_at hl 1 rfl) ?_
  refine lv_iconst (v := nI 1) hx hb dX1_lay_1 (by decide) ?_
  refine lv_iand hx hb dX1_lay_2 ?_
  refine wk_top (y := nI 1) (by decide) ?_
  refine lv_iconst (v := nI 2) hx hb dX1_lay_3 (by decide) ?_
  refine lv_ishl hx hb dX1_lay_4 ?_
  refine wk_top (y := nI 4) (by decide) ?_
  refine lv_istore (lv' := [(6, .int (nI 4)), (0, .ref h0), (1, .int (nI 1)), (2, .int x0), (3, .int x1), (4, .int x2), (5, .int x3)]) hx hb dX1_lay_5 hl (by decide) rfl (fun ls hl => ?_)
  refine lv_aload_n hx hb dX1_lay_7 rfl (lv_at hl 1 rfl) ?_
  refine va_get (D := (dC, dI)) (ci := 0) (v := .ref hn) (C := RX1) (T := TX1) (N := 3) hx hb hts in_X1 hown hK hP 0 rfl rfl 0 (by decide) (hts _ q11) (fun _ h9 => h9) rfl dX1_lay_8 ?_
  refine lv_iload hx hb dX1_lay_11 (lv_at hl 0 rfl) ?_
  refine lv_iload_n hx hb dX1_lay_13 rfl (lv_at hl 3 rfl) ?_
  refine wk_iast hx hb hK hP hD hS 1 0 rfl rfl (i := 4) (by decide) (by decide) dX1_lay_14 (fun H locs hP hD hS => ?_)
  have hP : va_P (dC, dI) vwCl [(h0, .inr (0, [.ref hn, .ref hd, .int wv])), (hn, .inl (dn, 8, .inl (upd f 4 x0)))] H := hP
  have hD : va_D A [(h0, .inr (0, [.ref hn, .ref hd, .int wv])), (hn, .inl (dn, 8, .inl (upd f 4 x0)))] := hD
  refine lv_aload_n hx hb dX1_lay_15 rfl (lv_at hl 1 rfl) ?_
  refine va_get (D := (dC, dI)) (ci := 0) (v := .ref hn) (C := RX1) (T := TX1) (N := 3) hx hb hts in_X1 hown hK hP 0 rfl rfl 0 (by decide) (hts _ q11) (fun _ h9 => h9) rfl dX1_lay_16 ?_
  refine lv_iload hx hb dX1_lay_19 (lv_at hl 0 rfl) ?_
  refine lv_iconst (v := nI 1) hx hb dX1_lay_21 (by decide) ?_
  refine lv_iadd hx hb dX1_lay_22 ?_
  refine wk_top (y := nI 5) (by decide) ?_
  refine lv_iload_n hx hb dX1_lay_23 rfl (lv_at hl 4 rfl) ?_
  refine wk_iast hx hb hK hP hD hS 1 0 rfl rfl (i := 5) (by decide) (by decide) dX1_lay_24 (fun H locs hP hD hS => ?_)
  have hP : va_P (dC, dI) vwCl [(h0, .inr (0, [.ref hn, .ref hd, .int wv])), (hn, .inl (dn, 8, .inl (upd (upd f 4 x0) 5 x1)))] H := hP
  have hD : va_D A [(h0, .inr (0, [.ref hn, .ref hd, .int wv])), (hn, .inl (dn, 8, .inl (upd (upd f 4 x0) 5 x1)))] := hD
  refine lv_aload_n hx hb dX1_lay_25 rfl (lv_at hl 1 rfl) ?_
  refine va_get (D := (dC, dI)) (ci := 0) (v := .ref hn) (C := RX1) (T := TX1) (N := 3) hx hb hts in_X1 hown hK hP 0 rfl rfl 0 (by decide) (hts _ q11) (fun _ h9 => h9) rfl dX1_lay_26 ?_
  refine lv_iload hx hb dX1_lay_29 (lv_at hl 0 rfl) ?_
  refine lv_iconst (v := nI 2) hx hb dX1_lay_31 (by decide) ?_
  refine lv_iadd hx hb dX1_lay_32 ?_
  refine wk_top (y := nI 6) (by decide) ?_
  refine lv_iload hx hb dX1_lay_33 (lv_at hl 5 rfl) ?_
  refine wk_iast hx hb hK hP hD hS 1 0 rfl rfl (i := 6) (by decide) (by decide) dX1_lay_35 (fun H locs hP hD hS => ?_)
  have hP : va_P (dC, dI) vwCl [(h0, .inr (0, [.ref hn, .ref hd, .int wv])), (hn, .inl (dn, 8, .inl (upd (upd (upd f 4 x0) 5 x1) 6 x2)))] H := hP
  have hD : va_D A [(h0, .inr (0, [.ref hn, .ref hd, .int wv])), (hn, .inl (dn, 8, .inl (upd (upd (upd f 4 x0) 5 x1) 6 x2)))] := hD
  refine lv_aload_n hx hb dX1_lay_36 rfl (lv_at hl 1 rfl) ?_
  refine va_get (D := (dC, dI)) (ci := 0) (v := .ref hn) (C := RX1) (T := TX1) (N := 3) hx hb hts in_X1 hown hK hP 0 rfl rfl 0 (by decide) (hts _ q11) (fun _ h9 => h9) rfl dX1_lay_37 ?_
  refine lv_iload hx hb dX1_lay_40 (lv_at hl 0 rfl) ?_
  refine lv_iconst (v := nI 3) hx hb dX1_lay_42 (by decide) ?_
  refine lv_iadd hx hb dX1_lay_43 ?_
  refine wk_top (y := nI 7) (by decide) ?_
  refine lv_iload hx hb dX1_lay_44 (lv_at hl 6 rfl) ?_
  refine lv_iload hx hb dX1_lay_46 (lv_at hl 0 rfl) ?_
  refine lv_if_ne (tgt := 55) hx hb dX1_lay_48 (by decide) (fun _ => ?_) (fun c_ => absurd c_ (by decide))
  refine lv_ldc (v := 268435455) hx hb hown (hts _ q56) dX1_lay_55 ?_
  refine lv_iand hx hb dX1_lay_57 ?_
  refine wk_iast hx hb hK hP hD hS 1 0 rfl rfl (i := 7) (by decide) (by decide) dX1_lay_58 (fun H locs hP hD hS => ?_)
  have hP : va_P (dC, dI) vwCl [(h0, .inr (0, [.ref hn, .ref hd, .int wv])), (hn, .inl (dn, 8, .inl (upd (upd (upd (upd f 4 x0) 5 x1) 6 x2) 7 (x3 &&& 268435455))))] H := hP
  have hD : va_D A [(h0, .inr (0, [.ref hn, .ref hd, .int wv])), (hn, .inl (dn, 8, .inl (upd (upd (upd (upd f 4 x0) 5 x1) 6 x2) 7 (x3 &&& 268435455))))] := hD
  exact wk_endv () hx hb hr hlocks hP hK hD hS trivial (Nat.le_of_ble_eq_true rfl) (Nat.le_of_ble_eq_true rfl) dX1_lay_59
set_option maxHeartbeats 4000000 in
set_option maxRecDepth 100000 in
/-- few(i, v): the word named by the lowest three places of i -/
theorem met_few (l : Launch) (dC : Nat → ClassId) (dI : Nat → Nat → Nat) (h0 hn hd : Nat) (wv : Int32) (dn : ClassId) (f : Nat → Int32) (sz : Nat) (i v : Int32) (j : Nat) (hj : wn_u i % 8 = j) : wk_Mv l yX1_few cX1_few 3 ({ frames := 0, cells := 0, slots := 0, locals := 0 } : Room) [.ref h0, .int i, .int v] sz (dC, dI) [(h0, .inr (0, [.ref hn, .ref hd, .int wv])), (hn, .inl (dn, 8, .inl f))] [(dn, .int)] (fun u : Nat → Int32 => u = upd f j (if j = 7 then v &&& 268435455 else v)) (fun u : Nat → Int32 => [(h0, .inr (0, [.ref hn, .ref hd, .int wv])), (hn, .inl (dn, 8, .inl u))]) (fun _ : Nat → Int32 => [(dn, .int)]) 0 0 := by
  refine wk_met0 (fun A => va_Qv (fun u : Nat → Int32 => u = upd f j (if j = 7 then v &&& 268435455 else v)) (wk_B (dC, dI) vwCl A (fun u : Nat → Int32 => [(h0, .inr (0, [.ref hn, .ref hd, .int wv])), (hn, .inl (dn, 8, .inl u))]) (fun _ : Nat → Int32 => [(dn, .int)])) A) (by decide) (Nat.le_of_ble_eq_true rfl) ?_
  intro p e s m below meth c A ls hx hb hr hml hlocks hts hown hnm hsz hP hK hD hS hA hl
  have hl : lv_has ls 3 [(0, .ref h0), (1, .int i), (2, .int v)] := hl
  have hown : s.vm.findClass RX1 = some m.cls := hown
  have hP : va_P (dC, dI) vwCl [(h0, .inr (0, [.ref hn, .ref hd, .int wv])), (hn, .inl (dn, 8, .inl f))] s.heap := hP
  have hD : va_D A [(h0, .inr (0, [.ref hn, .ref hd, .int wv])), (hn, .inl (dn, 8, .inl f))] := hD
  have hj8 : j < 8 := by omega
  have ej : i &&& nI 7 = nI j := by rw [pk_and i (m := nI 7) 3 (by decide)]; exact congrArg nI hj
  refine lv_aload_n hx hb dX1_few_0 rfl (lv_at hl 0 rfl) ?_
  refine va_get (D := (dC, dI)) (ci := 0) (v := .ref hn) (C := RX1) (T := TX1) (N := 3) hx hb hts in_X1 hown hK hP 0 rfl rfl 0 (by decide) (hts _ q11) (fun _ h9 => h9) rfl dX1_few_1 ?_
  refine lv_iload_n hx hb dX1_few_4 rfl (lv_at hl 1 rfl) ?_
  refine lv_bipush (v := nI 7) hx hb dX1_few_5 (by decide) ?_
  refine lv_iand hx hb dX1_few_7 ?_
  refine wk_top (y := nI j) (ej) ?_
  refine lv_iload_n hx hb dX1_few_8 rfl (lv_at hl 1 rfl) ?_
  refine lv_bipush (v := nI 7) hx hb dX1_few_9 (by decide) ?_
  refine lv_iand hx hb dX1_few_11 ?_
  refine wk_top (y := nI j) (ej) ?_
  refine lv_bipush (v := nI 7) hx hb dX1_few_12 (by decide) ?_
  refine lv_icmp_ne (tgt := 24) hx hb dX1_few_14 (by decide) (fun c_1 => ?_) (fun c_1 => ?_)
  · refine lv_iload_n hx hb dX1_few_24 rfl (lv_at hl 2 rfl) ?_
    refine wk_iast hx hb hK hP hD hS 1 0 rfl rfl (i := j) (hj8) (by decide) dX1_few_25 (fun H locs hP hD hS => ?_)
    have hP : va_P (dC, dI) vwCl [(h0, .inr (0, [.ref hn, .ref hd, .int wv])), (hn, .inl (dn, 8, .inl (upd f j v)))] H := hP
    have hD : va_D A [(h0, .inr (0, [.ref hn, .ref hd, .int wv])), (hn, .inl (dn, 8, .inl (upd f j v)))] := hD
    have j7 : ¬ j = 7 := fun h_ => c_1 (by rw [h_])
    exact wk_endv (upd f j v) hx hb hr hlocks hP hK hD hS (by rw [if_neg j7]) (Nat.le_of_ble_eq_true rfl) (Nat.le_of_ble_eq_true rfl) dX1_few_26
  · refine lv_iload_n hx hb dX1_few_17 rfl (lv_at hl 2 rfl) ?_
    refine lv_ldc (v := 268435455) hx hb hown (hts _ q56) dX1_few_18 ?_
    refine lv_iand hx hb dX1_few_20 ?_
    refine lv_goto (tgt := 25) hx hb dX1_few_21 (by decide) ?_
    refine wk_iast hx hb hK hP hD hS 1 0 rfl rfl (i := j) (hj8) (by decide) dX1_few_25 (fun H locs hP hD hS => ?_)
    have hP : va_P (dC, dI) vwCl [(h0, .inr (0, [.ref hn, .ref hd, .int wv])), (hn, .inl (dn, 8, .inl (upd f j (v &&& 268435455))))] H := hP
    have hD : va_D A [(h0, .inr (0, [.ref hn, .ref hd, .int wv])), (hn, .inl (dn, 8, .inl (upd f j (v &&& 268435455))))] := hD
    have j7 : j = 7 := (nI_eq (by omega) (by decide)).mp c_1
    exact wk_endv (upd f j (v &&& 268435455)) hx hb hr hlocks hP hK hD hS (by rw [if_pos j7]) (Nat.le_of_ble_eq_true rfl) (Nat.le_of_ble_eq_true rfl) dX1_few_26
end
section
/-! Wnaf.getSignedVar: its two loops, and what its steps mean for the number -/
theorem wn_inv_skip {w N p : Nat} {g : Nat → Int32} (hg : ∀ q, q < 253 → (g q).toInt = if q < p then wn_dg w (N : Int) q else 0) (h0 : wn_dg w (N : Int) p = 0) : ∀ q, q < 253 → (g q).toInt = if q < p + 1 then wn_dg w (N : Int) q else 0 := by
  intro q hq
  rw [hg q hq]
  by_cases c1 : q < p
  · rw [if_pos c1, if_pos (by omega)]
  · rw [if_neg c1]
    by_cases c2 : q = p
    · rw [if_pos (by omega), c2, h0]
    · rw [if_neg (by omega)]
theorem wn_inv_take {w N p : Nat} {g : Nat → Int32} {x : Int32} (hok : wn_ok w) (hg : ∀ q, q < 253 → (g q).toInt = if q < p then wn_dg w (N : Int) q else 0) (hx : x.toInt = wn_dg w (N : Int) p) (hz : ∀ k, p < k → k < p + w → wn_dg w (N : Int) k = 0) : ∀ q, q < 253 → (upd g p x q).toInt = if q < p + w then wn_dg w (N : Int) q else 0 := by
  intro q hq
  have hw1 : 1 ≤ w := by rcases hok with rfl | rfl | rfl | rfl <;> decide
  by_cases c2 : q = p
  · rw [c2, pk_us, hx, if_pos (by omega)]
  · rw [pk_un c2, hg q hq]
    by_cases c1 : q < p
    · rw [if_pos c1, if_pos (by omega)]
    · rw [if_neg c1]
      by_cases c3 : q < p + w
      · rw [if_pos c3, hz q (by omega) c3]
      · rw [if_neg c3]
theorem wn_m16 {j : Nat} (h : 16 ≤ j) : nI j + (-16) = nI (j - 16) := by
  have e : nI j = nI (j - 16) + nI 16 := by rw [nI_add, Nat.sub_add_cancel h]
  rw [e, Int32.add_assoc, show nI 16 + (-16 : Int32) = 0 by decide, Int32.add_zero]
theorem wn_v9 {x : Int32} {N i j : Nat} (ht : wn_u x = N / 2 ^ (16 * i) % 4294967296) (hj : j < 16) : wn_u (Int32.toUInt32 x >>> (Int32.toUInt32 (nI j) &&& Int32.toUInt32 31)).toInt32 = N / 2 ^ (16 * i + j) % 2 ^ (32 - j) := by
  rw [wn_u_ushr x (by omega), ht, wn_cut hj]
theorem wn_b9 {v : Int32} {X j : Nat} (hv : wn_u v = X % 2 ^ (32 - j)) (hj : j < 16) : v &&& nI 1 = nI (X % 2) := by
  rw [pk_and v (m := nI 1) 1 (by decide)]
  have e : v.toBitVec.toNat % 2 ^ 1 = X % 2 := by
    rw [show v.toBitVec.toNat = X % 2 ^ (32 - j) from hv, Nat.pow_one, wn_cut_bit hj]
  rw [e]
theorem wn_y9 {v : Int32} {X j w : Nat} (hok : wn_ok w) (hv : wn_u v = X % 2 ^ (32 - j)) (hj : j < 16) : wn_sg w (wn_u (v ||| nI 1)) = wn_sg w (X + (1 - X % 2)) := by
  rw [wn_u_or, wn_u_nI (by decide), hv, wn_or1]
  exact wn_sg_congr (wn_cut_mod hok hj)
theorem wn_lay16 {f t : Nat → Int32} {N k : Nat} {c4 : Int32} (hf : wn_is f N) (hk : k < 8) (hc : wn_u c4 % 65536 = N / 2 ^ (32 * (k + 1)) % 65536) (ht : ∀ q, 2 * (k + 1) ≤ q → q < 16 → wn_u (t q) = N / 2 ^ (16 * q) % 4294967296) : ∀ q, 2 * k ≤ q → q < 16 → wn_u (upd (upd t (2 * k + 1) ((Int32.toUInt32 (f k) >>> (Int32.toUInt32 (nI 16) &&& Int32.toUInt32 31)).toInt32 ||| (c4 <<< ((nI 16) &&& 31)))) (2 * k) (f k) q) = N / 2 ^ (16 * q) % 4294967296 := by
  intro q h1 h2
  by_cases c1 : q = 2 * k
  · rw [c1, pk_us, hf.2 k hk, wn_T_even]
  · rw [pk_un c1]
    by_cases c2 : q = 2 * k + 1
    · rw [c2, pk_us, wn_half_word, hc, hf.2 k hk, wn_T_odd]
    · rw [pk_un c2]
      exact ht q (by omega) h2
theorem wk_setQ {p : Program} {l : Launch} {e : Env} {R : Room} {s : State} {m : MethodId} {args : Array Value} {below : List Frame} {meth : Method} {c : Code} {H : Heap} {locs : List Loc} {cells slots : Nat} {Q0 : State → Prop} {g : JFrame} (k : ∀ Q : State → Prop, Q = Q0 → W p l e R s m args below meth c H locs cells slots Q g) : W p l e R s m args below meth c H locs cells slots Q0 g := k Q0 rfl
set_option maxHeartbeats 4000000 in
set_option maxRecDepth 100000 in
/-- getSignedVar(n, w, ws): the digits of the number -/
theorem met_gsv (l : Launch) (dC : Nat → ClassId) (dI : Nat → Nat → Nat) (hn hw : Nat) (dn dw : ClassId) (f g0 : Nat → Int32) (sz w N : Nat) (hok : wn_ok w) (hf : wn_is f N) (hg : ∀ q, q < 253 → g0 q = 0) : wk_Mv l yX2_getSignedVar cX2_getSignedVar 12 ({ frames := 0, cells := 1, slots := 16, locals := 0 } : Room) [.ref hn, .int (nI w), .ref hw] sz (dC, dI) [(hn, .inl (dn, 8, .inl f)), (hw, .inl (dw, 253, .inl g0))] [(dn, .int), (dw, .byte)] (fun u : Nat → Int32 => ∀ q, q < 253 → (u q).toInt = wn_dg w (N : Int) q) (fun u : Nat → Int32 => [(hn, .inl (dn, 8, .inl f)), (hw, .inl (dw, 253, .inl u))]) (fun _ : Nat → Int32 => [(dn, .int), (dw, .byte)]) 1 16 := by
  refine wk_met0 (fun A => va_Qv (fun u : Nat → Int32 => ∀ q, q < 253 → (u q).toInt = wn_dg w (N : Int) q) (wk_B (dC, dI) vwCl A (fun u : Nat → Int32 => [(hn, .inl (dn, 8, .inl f)), (hw, .inl (dw, 253, .inl u))]) (fun _ : Nat → Int32 => [(dn, .int), (dw, .byte)])) A) (by decide) (Nat.le_of_ble_eq_true rfl) ?_
  intro p e s m below meth c A ls hx hb hr hml hlocks hts hown hnm hsz hP hK hD hS hA hl
  have hl : lv_has ls 12 [(0, .ref hn), (1, .int (nI w)), (2, .ref hw)] := hl
  have hown : s.vm.findClass RX2 = some m.cls := hown
  have hP : va_P (dC, dI) vwCl [(hn, .inl (dn, 8, .inl f)), (hw, .inl (dw, 253, .inl g0))] s.heap := hP
  have hD : va_D A [(hn, .inl (dn, 8, .inl f)), (hw, .inl (dw, 253, .inl g0))] := hD
  refine wk_setQ (fun Q hQ => ?_)
  refine lv_aload_n hx hb dX2_getSignedVar_0 rfl (lv_at hl 0 rfl) ?_
  refine va_alen (v := nI 8) hx hb hK hP 0 0 rfl rfl rfl dX2_getSignedVar_1 ?_
  refine lv_iconst (v := nI 2) hx hb dX2_getSignedVar_2 (by decide) ?_
  refine lv_imul hx hb dX2_getSignedVar_3 ?_
  refine wk_top (y := nI 16) (by decide) ?_
  refine wk_newI hx hb (hts _ q21) hK hP hD hS hA (n := 16) (by decide) (Nat.le_of_ble_eq_true rfl) (Nat.le_of_ble_eq_true rfl) (Nat.le_of_ble_eq_true rfl) dX2_getSignedVar_4 (fun ht dt H hK hP hD hS => ?_)
  have hK : va_K (dC, dI) vwCl [(dn, .int), (dw, .byte), (dt, .int)] s := hK
  have hP : va_P (dC, dI) vwCl [(hn, .inl (dn, 8, .inl f)), (hw, .inl (dw, 253, .inl g0)), (ht, .inl (dt, 16, .inl (fun _ => 0)))] H := hP
  have hD : va_D A [(hn, .inl (dn, 8, .inl f)), (hw, .inl (dw, 253, .inl g0)), (ht, .inl (dt, 16, .inl (fun _ => 0)))] := hD
  refine W.widen (k := 1) (n := 16) (by decide) (by decide) ?_
  refine lv_astore_n (lv' := [(3, .ref ht), (0, .ref hn), (1, .int (nI w)), (2, .ref hw)]) hx hb dX2_getSignedVar_6 rfl hl (by decide) rfl (fun ls hl => ?_)
  refine lv_aload_n hx hb dX2_getSignedVar_7 rfl (lv_at hl 1 rfl) ?_
  refine lv_aload_n hx hb dX2_getSignedVar_8 rfl (lv_at hl 1 rfl) ?_
  refine va_alen (v := nI 8) hx hb hK hP 0 0 rfl rfl rfl dX2_getSignedVar_9 ?_
  refine lv_iconst (v := nI 1) hx hb dX2_getSignedVar_10 (by decide) ?_
  refine lv_isub hx hb dX2_getSignedVar_11 ?_
  refine wk_top (y := nI 7) (by decide) ?_
  refine wk_iald hx hb hK hP 0 0 rfl rfl (i := 7) (by decide) (by decide) dX2_getSignedVar_12 ?_
  refine lv_bipush (v := nI 31) hx hb dX2_getSignedVar_13 (by decide) ?_
  refine lv_ishr hx hb dX2_getSignedVar_15 ?_
  refine wk_top (y := nI 0) (wn_sar31 (wn_is_top hf)) ?_
  refine lv_istore (lv' := [(4, .int (nI 0)), (3, .ref ht), (0, .ref hn), (1, .int (nI w)), (2, .ref hw)]) hx hb dX2_getSignedVar_16 hl (by decide) rfl (fun ls hl => ?_)
  refine lv_aload_n hx hb dX2_getSignedVar_18 rfl (lv_at hl 2 rfl) ?_
  refine va_alen (v := nI 8) hx hb hK hP 0 0 rfl rfl rfl dX2_getSignedVar_19 ?_
  refine lv_istore (lv' := [(5, .int (nI 8)), (4, .int (nI 0)), (3, .ref ht), (0, .ref hn), (1, .int (nI w)), (2, .ref hw)]) hx hb dX2_getSignedVar_20 hl (by decide) rfl (fun ls hl => ?_)
  refine lv_aload_n hx hb dX2_getSignedVar_22 rfl (lv_at hl 2 rfl) ?_
  refine va_alen (v := nI 16) hx hb hK hP 2 2 rfl rfl rfl dX2_getSignedVar_23 ?_
  refine lv_istore (lv' := [(6, .int (nI 16)), (5, .int (nI 8)), (4, .int (nI 0)), (3, .ref ht), (0, .ref hn), (1, .int (nI w)), (2, .ref hw)]) hx hb dX2_getSignedVar_24 hl (by decide) rfl (fun ls hl => ?_)
  have outer : ∀ t : Nat → Int32, (∀ q, q < 16 → wn_u (t q) = N / 2 ^ (16 * q) % 4294967296) → ∀ (n i j c_ : Nat) (g : Nat → Int32) (H : Heap) (locs : List Loc) (ls : Array Slot), n + i = 16 → j ≤ 5 → wn_cy w N (16 * i + j) c_ → (∀ q, q < 253 → (g q).toInt = if q < 16 * i + j then wn_dg w (N : Int) q else 0) → va_P (dC, dI) vwCl [(hn, .inl (dn, 8, .inl f)), (hw, .inl (dw, 253, .inl g)), (ht, .inl (dt, 16, .inl t))] H → va_D A [(hn, .inl (dn, 8, .inl f)), (hw, .inl (dw, 253, .inl g)), (ht, .inl (dt, 16, .inl t))] → va_S A s.heap H locs → lv_has ls 12 [(0, .ref hn), (1, .int (nI w)), (2, .ref hw), (3, .ref ht), (4, .int (nI (32 - w))), (5, .int (nI j)), (6, .int (nI c_)), (7, .int (nI i))] → W p l e ({ frames := 0, cells := 1, slots := 16, locals := 0 } : Room) s m ([.ref hn, .int (nI w), .ref hw] : List Value).toArray below meth c H locs 1 16 Q (F0 m 88 ls []) := by
    intro t htk n
    induction n with
    | zero =>
      intro i j c_ g H locs ls hi hj hcy hinv hP hD hS hl
      have hi : i = 16 := by omega
      subst hi
      refine lv_iload hx hb dX2_getSignedVar_88 (lv_at hl 7 rfl) ?_
      refine lv_aload_n hx hb dX2_getSignedVar_90 rfl (lv_at hl 3 rfl) ?_
      refine va_alen (v := nI 16) hx hb hK hP 2 2 rfl rfl rfl dX2_getSignedVar_91 ?_
      refine lv_icmp_ge (tgt := 183) hx hb dX2_getSignedVar_92 (by decide) (fun _ => ?_) (fun c_ => absurd (Int32.le_refl _) c_)
      subst hQ
      exact wk_endv g hx hb hr hlocks (hP.sub [0, 1] rfl) (hK.sub [0, 1] rfl) (hD.sub [0, 1] (by decide) rfl) hS (fun q hq => by rw [hinv q hq, if_pos (by omega)]) (Nat.le_of_ble_eq_true rfl) (Nat.le_of_ble_eq_true rfl) dX2_getSignedVar_183
    | succ n ih =>
      intro i j c_ g H locs ls hi hj hcy hinv hP hD hS hl
      have hi16 : i < 16 := by omega
      refine lv_iload hx hb dX2_getSignedVar_88 (lv_at hl 7 rfl) ?_
      refine lv_aload_n hx hb dX2_getSignedVar_90 rfl (lv_at hl 3 rfl) ?_
      refine va_alen (v := nI 16) hx hb hK hP 2 2 rfl rfl rfl dX2_getSignedVar_91 ?_
      refine lv_icmp_ge (tgt := 183) hx hb dX2_getSignedVar_92 (by decide) (fun c_ => absurd c_ (nI_ge hi16 (by decide))) (fun _ => ?_)
      refine lv_aload_n hx hb dX2_getSignedVar_95 rfl (lv_at hl 3 rfl) ?_
      refine lv_iload hx hb dX2_getSignedVar_96 (lv_at hl 7 rfl) ?_
      refine wk_iald hx hb hK hP 2 2 rfl rfl (i := i) (hi16) (by decide) dX2_getSignedVar_98 ?_
      refine lv_istore (lv' := [(8, .int (t i)), (0, .ref hn), (1, .int (nI w)), (2, .ref hw), (3, .ref ht), (4, .int (nI (32 - w))), (5, .int (nI j)), (6, .int (nI c_)), (7, .int (nI i))]) hx hb dX2_getSignedVar_99 hl (by decide) rfl (fun ls hl => ?_)
      have inner : ∀ (k j c_ : Nat) (g : Nat → Int32) (H : Heap) (locs : List Loc) (ls : Array Slot), 22 ≤ k + j → j ≤ 21 → wn_cy w N (16 * i + j) c_ → (∀ q, q < 253 → (g q).toInt = if q < 16 * i + j then wn_dg w (N : Int) q else 0) → va_P (dC, dI) vwCl [(hn, .inl (dn, 8, .inl f)), (hw, .inl (dw, 253, .inl g)), (ht, .inl (dt, 16, .inl t))] H → va_D A [(hn, .inl (dn, 8, .inl f)), (hw, .inl (dw, 253, .inl g)), (ht, .inl (dt, 16, .inl t))] → va_S A s.heap H locs → lv_has ls 12 [(0, .ref hn), (1, .int (nI w)), (2, .ref hw), (3, .ref ht), (4, .int (nI (32 - w))), (5, .int (nI j)), (6, .int (nI c_)), (7, .int (nI i)), (8, .int (t i))] → W p l e ({ frames := 0, cells := 1, slots := 16, locals := 0 } : Room) s m ([.ref hn, .int (nI w), .ref hw] : List Value).toArray below meth c H locs 1 16 Q (F0 m 101 ls []) := by
        intro k
        induction k with
        | zero => intro j c_ g H locs ls h1 h2; exact absurd h1 (by omega)
        | succ k ihk =>
          intro j c_ g H locs ls hk hj hcy hinv hP hD hS hl
          refine lv_iload hx hb dX2_getSignedVar_101 (lv_at hl 5 rfl) ?_
          refine lv_bipush (v := nI 16) hx hb dX2_getSignedVar_103 (by decide) ?_
          refine lv_icmp_ge (tgt := 174) hx hb dX2_getSignedVar_105 (by decide) (fun c_1 => ?_) (fun c_1 => ?_)
          · have hj16 : 16 ≤ j := (nI_leI (by decide) (by omega)).mp c_1
            refine lv_iinc (v := nI (i + 1)) (lv' := [(7, .int (nI (i + 1))), (0, .ref hn), (1, .int (nI w)), (2, .ref hw), (3, .ref ht), (4, .int (nI (32 - w))), (5, .int (nI j)), (6, .int (nI c_)), (8, .int (t i))]) hx hb dX2_getSignedVar_174 hl (k := 7) rfl (nI_1 i) (by decide) rfl (fun ls hl => ?_)
            refine lv_iinc (v := nI (j - 16)) (lv' := [(5, .int (nI (j - 16))), (7, .int (nI (i + 1))), (0, .ref hn), (1, .int (nI w)), (2, .ref hw), (3, .ref ht), (4, .int (nI (32 - w))), (6, .int (nI c_)), (8, .int (t i))]) hx hb dX2_getSignedVar_177 hl (k := 6) rfl (wn_m16 hj16) (by decide) rfl (fun ls hl => ?_)
            refine lv_goto (tgt := 88) hx hb dX2_getSignedVar_180 (by decide) ?_
            have hl : lv_has ls 12 [(0, .ref hn), (1, .int (nI w)), (2, .ref hw), (3, .ref ht), (4, .int (nI (32 - w))), (5, .int (nI (j - 16))), (6, .int (nI c_)), (7, .int (nI (i + 1)))] := lv_sub hl [2, 3, 4, 5, 6, 0, 7, 1] rfl
            have ep : 16 * (i + 1) + (j - 16) = 16 * i + j := by omega
            exact ih (i + 1) (j - 16) c_ g H locs ls (by omega) (by omega) (by rw [ep]; exact hcy) (by rw [ep]; exact hinv) hP hD hS hl
          · have hj16 : j < 16 := by rcases Nat.lt_or_ge j 16 with h_ | h_; exact h_; exact absurd (nI_le h_ (by omega)) c_1
            refine lv_iload hx hb dX2_getSignedVar_108 (lv_at hl 8 rfl) ?_
            refine lv_iload hx hb dX2_getSignedVar_110 (lv_at hl 5 rfl) ?_
            refine lv_iushr hx hb dX2_getSignedVar_112 rfl ?_
            refine lv_topi (fun v9 ev9 => ?_)
            have h9 : wn_u v9 = N / 2 ^ (16 * i + j) % 2 ^ (32 - j) := by rw [ev9]; exact wn_v9 (htk i hi16) hj16
            refine lv_istore (lv' := [(9, .int v9), (0, .ref hn), (1, .int (nI w)), (2, .ref hw), (3, .ref ht), (4, .int (nI (32 - w))), (5, .int (nI j)), (6, .int (nI c_)), (7, .int (nI i)), (8, .int (t i))]) hx hb dX2_getSignedVar_113 hl (by decide) rfl (fun ls hl => ?_)
            refine lv_iload hx hb dX2_getSignedVar_115 (lv_at hl 0 rfl) ?_
            refine lv_iconst (v := nI 1) hx hb dX2_getSignedVar_117 (by decide) ?_
            refine lv_iand hx hb dX2_getSignedVar_118 ?_
            refine wk_top (y := nI (N / 2 ^ (16 * i + j) % 2)) (wn_b9 h9 hj16) ?_
            refine lv_istore (lv' := [(10, .int (nI (N / 2 ^ (16 * i + j) % 2))), (9, .int v9), (0, .ref hn), (1, .int (nI w)), (2, .ref hw), (3, .ref ht), (4, .int (nI (32 - w))), (5, .int (nI j)), (6, .int (nI c_)), (7, .int (nI i)), (8, .int (t i))]) hx hb dX2_getSignedVar_119 hl (by decide) rfl (fun ls hl => ?_)
            refine lv_iload hx hb dX2_getSignedVar_121 (lv_at hl 0 rfl) ?_
            refine lv_iload hx hb dX2_getSignedVar_123 (lv_at hl 8 rfl) ?_
            refine lv_icmp_ne (tgt := 134) hx hb dX2_getSignedVar_125 (by decide) (fun c_2 => ?_) (fun c_2 => ?_)
            · have hc2 : ¬ N / 2 ^ (16 * i + j) % 2 = c_ := fun h_ => c_2 (by rw [h_])
              have hp : 16 * i + j < 253 := by rcases Nat.lt_or_ge (16 * i + j) 253 with h_ | h_; exact h_; exact absurd (wn_cy_end hok hf.1 hcy h_) hc2
              obtain ⟨k1, k2, k3, k4, k5⟩ := wn_cy_take hok hcy hc2 rfl
              refine lv_iload hx hb dX2_getSignedVar_134 (lv_at hl 1 rfl) ?_
              refine lv_iconst (v := nI 1) hx hb dX2_getSignedVar_136 (by decide) ?_
              refine lv_ior hx hb dX2_getSignedVar_137 ?_
              have hy9 := wn_y9 hok h9 hj16
              refine lv_topi (fun y9 ey9 => ?_)
              rw [← ey9] at hy9
              obtain ⟨g1, g2⟩ := wn_dgt hok y9
              rw [hy9] at g1 g2
              refine lv_iload hx hb dX2_getSignedVar_138 (lv_at hl 6 rfl) ?_
              refine lv_ishl hx hb dX2_getSignedVar_140 ?_
              refine lv_istore (lv' := [(11, .int (y9 <<< ((nI (32 - w)) &&& 31))), (10, .int (nI (N / 2 ^ (16 * i + j) % 2))), (9, .int v9), (0, .ref hn), (1, .int (nI w)), (2, .ref hw), (3, .ref ht), (4, .int (nI (32 - w))), (5, .int (nI j)), (6, .int (nI c_)), (7, .int (nI i)), (8, .int (t i))]) hx hb dX2_getSignedVar_141 hl (by decide) rfl (fun ls hl => ?_)
              refine lv_iload hx hb dX2_getSignedVar_143 (lv_at hl 0 rfl) ?_
              refine lv_bipush (v := nI 31) hx hb dX2_getSignedVar_145 (by decide) ?_
              refine lv_iushr hx hb dX2_getSignedVar_147 rfl ?_
              generalize hsg : wn_sg w (N / 2 ^ (16 * i + j) + (1 - N / 2 ^ (16 * i + j) % 2)) = sg at k1 k3 k4 k5 g1 g2
              refine wk_top (y := nI (if sg < 0 then 1 else 0)) (g2) ?_
              refine lv_istore (lv' := [(6, .int (nI (if sg < 0 then 1 else 0))), (11, .int (y9 <<< ((nI (32 - w)) &&& 31))), (10, .int (nI (N / 2 ^ (16 * i + j) % 2))), (9, .int v9), (0, .ref hn), (1, .int (nI w)), (2, .ref hw), (3, .ref ht), (4, .int (nI (32 - w))), (5, .int (nI j)), (7, .int (nI i)), (8, .int (t i))]) hx hb dX2_getSignedVar_148 hl (by decide) rfl (fun ls hl => ?_)
              refine lv_aload_n hx hb dX2_getSignedVar_150 rfl (lv_at hl 6 rfl) ?_
              refine lv_iload hx hb dX2_getSignedVar_151 (lv_at hl 10 rfl) ?_
              refine lv_iconst (v := nI 4) hx hb dX2_getSignedVar_153 (by decide) ?_
              refine lv_ishl hx hb dX2_getSignedVar_154 ?_
              refine wk_top (y := nI (16 * i)) (by rw [pk_shlN (nI 4 &&& 31) 4 (by decide) (by omega)]; exact congrArg nI (by omega)) ?_
              refine lv_iload hx hb dX2_getSignedVar_155 (lv_at hl 9 rfl) ?_
              refine lv_iadd hx hb dX2_getSignedVar_157 ?_
              refine wk_top (y := nI (16 * i + j)) (nI_add _ _) ?_
              refine lv_iload hx hb dX2_getSignedVar_158 (lv_at hl 1 rfl) ?_
              refine lv_iload hx hb dX2_getSignedVar_160 (lv_at hl 8 rfl) ?_
              refine lv_ishr hx hb dX2_getSignedVar_162 ?_
              refine lv_topi (fun d11 ed11 => ?_)
              rw [← ed11] at g1
              refine lv_i2b hx hb dX2_getSignedVar_163 rfl ?_
              refine wk_bast hx hb hK hP hD hS 1 1 rfl rfl (i := (16 * i + j)) (hp) (by decide) dX2_getSignedVar_164 (fun H locs hP hD hS => ?_)
              have hP : va_P (dC, dI) vwCl [(hn, .inl (dn, 8, .inl f)), (hw, .inl (dw, 253, .inl (upd g (16 * i + j) (vp_nar .byte ((Int32.toInt8 d11).toInt32))))), (ht, .inl (dt, 16, .inl t))] H := hP
              have hD : va_D A [(hn, .inl (dn, 8, .inl f)), (hw, .inl (dw, 253, .inl (upd g (16 * i + j) (vp_nar .byte ((Int32.toInt8 d11).toInt32))))), (ht, .inl (dt, 16, .inl t))] := hD
              refine lv_iload hx hb dX2_getSignedVar_165 (lv_at hl 9 rfl) ?_
              refine lv_iload_n hx hb dX2_getSignedVar_167 rfl (lv_at hl 5 rfl) ?_
              refine lv_iadd hx hb dX2_getSignedVar_168 ?_
              refine wk_top (y := nI (j + w)) (nI_add _ _) ?_
              refine lv_istore (lv' := [(5, .int (nI (j + w))), (6, .int (nI (if sg < 0 then 1 else 0))), (11, .int (y9 <<< ((nI (32 - w)) &&& 31))), (10, .int (nI (N / 2 ^ (16 * i + j) % 2))), (9, .int v9), (0, .ref hn), (1, .int (nI w)), (2, .ref hw), (3, .ref ht), (4, .int (nI (32 - w))), (7, .int (nI i)), (8, .int (t i))]) hx hb dX2_getSignedVar_169 hl (by decide) rfl (fun ls hl => ?_)
              refine lv_goto (tgt := 101) hx hb dX2_getSignedVar_171 (by decide) ?_
              have hl : lv_has ls 12 [(0, .ref hn), (1, .int (nI w)), (2, .ref hw), (3, .ref ht), (4, .int (nI (32 - w))), (5, .int (nI (j + w))), (6, .int (nI (if sg < 0 then 1 else 0))), (7, .int (nI i)), (8, .int (t i))] := lv_sub hl [5, 6, 7, 8, 9, 0, 1, 10, 11] rfl
              have hby : vp_nar .byte (Int32.toInt8 d11).toInt32 = d11 := wn_byte g1 k4 k5
              rw [hby] at hP hD
              have hw6 : 3 ≤ w ∧ w ≤ 6 := by rcases hok with rfl | rfl | rfl | rfl <;> decide
              have ep : 16 * i + (j + w) = 16 * i + j + w := by omega
              exact ihk (j + w) _ _ H locs ls (by omega) (by omega) (by rw [ep]; exact k3) (by rw [ep]; exact wn_inv_take hok hinv (by rw [g1, k1]) k2) hP hD hS hl
            · have hc2 : N / 2 ^ (16 * i + j) % 2 = c_ := (nI_eq (by omega) (by have := hcy.1; omega)).mp c_2
              obtain ⟨k1, k2⟩ := wn_cy_skip hcy hc2
              refine lv_iinc (v := nI (j + 1)) (lv' := [(5, .int (nI (j + 1))), (10, .int (nI (N / 2 ^ (16 * i + j) % 2))), (9, .int v9), (0, .ref hn), (1, .int (nI w)), (2, .ref hw), (3, .ref ht), (4, .int (nI (32 - w))), (6, .int (nI c_)), (7, .int (nI i)), (8, .int (t i))]) hx hb dX2_getSignedVar_128 hl (k := 7) rfl (nI_1 j) (by decide) rfl (fun ls hl => ?_)
              refine lv_goto (tgt := 101) hx hb dX2_getSignedVar_131 (by decide) ?_
              have hl : lv_has ls 12 [(0, .ref hn), (1, .int (nI w)), (2, .ref hw), (3, .ref ht), (4, .int (nI (32 - w))), (5, .int (nI (j + 1))), (6, .int (nI c_)), (7, .int (nI i)), (8, .int (t i))] := lv_sub hl [3, 4, 5, 6, 7, 0, 8, 9, 10] rfl
              exact ihk (j + 1) c_ g H locs ls (by omega) (by omega) k2 (wn_inv_skip hinv k1) hP hD hS hl
      have hl : lv_has ls 12 [(0, .ref hn), (1, .int (nI w)), (2, .ref hw), (3, .ref ht), (4, .int (nI (32 - w))), (5, .int (nI j)), (6, .int (nI c_)), (7, .int (nI i)), (8, .int (t i))] := lv_sub hl [1, 2, 3, 4, 5, 6, 7, 8, 0] rfl
      exact inner 22 j c_ g H locs ls (by omega) (by omega) hcy hinv hP hD hS hl
  have mid : ∀ (t : Nat → Int32) (H : Heap) (locs : List Loc) (ls : Array Slot), (∀ q, q < 16 → wn_u (t q) = N / 2 ^ (16 * q) % 4294967296) → va_P (dC, dI) vwCl [(hn, .inl (dn, 8, .inl f)), (hw, .inl (dw, 253, .inl g0)), (ht, .inl (dt, 16, .inl t))] H → va_D A [(hn, .inl (dn, 8, .inl f)), (hw, .inl (dw, 253, .inl g0)), (ht, .inl (dt, 16, .inl t))] → va_S A s.heap H locs → lv_has ls 12 [(0, .ref hn), (1, .int (nI w)), (2, .ref hw), (3, .ref ht)] → W p l e ({ frames := 0, cells := 1, slots := 16, locals := 0 } : Room) s m ([.ref hn, .int (nI w), .ref hw] : List Value).toArray below meth c H locs 1 16 Q (F0 m 73 ls []) := by
    intro t H locs ls htk hP hD hS hl
    refine lv_bipush (v := nI 32) hx hb dX2_getSignedVar_73 (by decide) ?_
    refine lv_iload_n hx hb dX2_getSignedVar_75 rfl (lv_at hl 1 rfl) ?_
    refine lv_isub hx hb dX2_getSignedVar_76 ?_
    refine wk_top (y := nI (32 - w)) (pk_sub (by rcases hok with rfl | rfl | rfl | rfl <;> decide)) ?_
    refine lv_istore (lv' := [(4, .int (nI (32 - w))), (0, .ref hn), (1, .int (nI w)), (2, .ref hw), (3, .ref ht)]) hx hb dX2_getSignedVar_77 hl (by decide) rfl (fun ls hl => ?_)
    refine lv_iconst (v := nI 0) hx hb dX2_getSignedVar_79 (by decide) ?_
    refine lv_istore (lv' := [(5, .int (nI 0)), (4, .int (nI (32 - w))), (0, .ref hn), (1, .int (nI w)), (2, .ref hw), (3, .ref ht)]) hx hb dX2_getSignedVar_80 hl (by decide) rfl (fun ls hl => ?_)
    refine lv_iconst (v := nI 0) hx hb dX2_getSignedVar_82 (by decide) ?_
    refine lv_istore (lv' := [(6, .int (nI 0)), (5, .int (nI 0)), (4, .int (nI (32 - w))), (0, .ref hn), (1, .int (nI w)), (2, .ref hw), (3, .ref ht)]) hx hb dX2_getSignedVar_83 hl (by decide) rfl (fun ls hl => ?_)
    refine lv_iconst (v := nI 0) hx hb dX2_getSignedVar_85 (by decide) ?_
    refine lv_istore (lv' := [(7, .int (nI 0)), (6, .int (nI 0)), (5, .int (nI 0)), (4, .int (nI (32 - w))), (0, .ref hn), (1, .int (nI w)), (2, .ref hw), (3, .ref ht)]) hx hb dX2_getSignedVar_86 hl (by decide) rfl (fun ls hl => ?_)
    have hl : lv_has ls 12 [(0, .ref hn), (1, .int (nI w)), (2, .ref hw), (3, .ref ht), (4, .int (nI (32 - w))), (5, .int (nI 0)), (6, .int (nI 0)), (7, .int (nI 0))] := lv_sub hl [4, 5, 6, 7, 3, 2, 1, 0] rfl
    exact outer t htk 16 0 0 0 g0 H locs ls (by decide) (by decide) ⟨by decide, by simp [wn_st]⟩ (fun q hq => by rw [hg q hq, if_neg (by omega)]; decide) hP hD hS hl
  have loop1 : ∀ (k : Nat) (c4 : Int32) (t : Nat → Int32) (H : Heap) (locs : List Loc) (ls : Array Slot), k ≤ 8 → wn_u c4 % 65536 = N / 2 ^ (32 * k) % 65536 → (∀ q, 2 * k ≤ q → q < 16 → wn_u (t q) = N / 2 ^ (16 * q) % 4294967296) → va_P (dC, dI) vwCl [(hn, .inl (dn, 8, .inl f)), (hw, .inl (dw, 253, .inl g0)), (ht, .inl (dt, 16, .inl t))] H → va_D A [(hn, .inl (dn, 8, .inl f)), (hw, .inl (dw, 253, .inl g0)), (ht, .inl (dt, 16, .inl t))] → va_S A s.heap H locs → lv_has ls 12 [(0, .ref hn), (1, .int (nI w)), (2, .ref hw), (3, .ref ht), (4, .int c4), (5, .int (nI k)), (6, .int (nI (2 * k)))] → W p l e ({ frames := 0, cells := 1, slots := 16, locals := 0 } : Room) s m ([.ref hn, .int (nI w), .ref hw] : List Value).toArray below meth c H locs 1 16 Q (F0 m 26 ls []) := by
    intro k
    induction k with
    | zero =>
      intro c4 t H locs ls hk hc htt hP hD hS hl
      refine lv_iinc (v := -1) (lv' := [(5, .int (-1)), (0, .ref hn), (1, .int (nI w)), (2, .ref hw), (3, .ref ht), (4, .int c4), (6, .int (nI (2 * 0)))]) hx hb dX2_getSignedVar_26 hl (k := 5) rfl (by decide) (by decide) rfl (fun ls hl => ?_)
      refine lv_iload hx hb dX2_getSignedVar_29 (lv_at hl 0 rfl) ?_
      refine lv_if_lt (tgt := 73) hx hb dX2_getSignedVar_31 (by decide) (fun _ => ?_) (fun c_ => absurd (by decide) c_)
      have hl : lv_has ls 12 [(0, .ref hn), (1, .int (nI w)), (2, .ref hw), (3, .ref ht)] := lv_sub hl [1, 2, 3, 4] rfl
      exact mid t H locs ls (fun q hq => htt q (by omega) hq) hP hD hS hl
    | succ k ih =>
      intro c4 t H locs ls hk hc htt hP hD hS hl
      refine lv_iinc (v := nI k) (lv' := [(5, .int (nI k)), (0, .ref hn), (1, .int (nI w)), (2, .ref hw), (3, .ref ht), (4, .int c4), (6, .int (nI (2 * (k + 1))))]) hx hb dX2_getSignedVar_26 hl (k := 5) rfl (pk_m1 k) (by decide) rfl (fun ls hl => ?_)
      refine lv_iload hx hb dX2_getSignedVar_29 (lv_at hl 0 rfl) ?_
      refine lv_if_lt (tgt := 73) hx hb dX2_getSignedVar_31 (by decide) (fun c_ => absurd c_ (nI_pos (by omega))) (fun _ => ?_)
      refine lv_aload_n hx hb dX2_getSignedVar_34 rfl (lv_at hl 1 rfl) ?_
      refine lv_iload hx hb dX2_getSignedVar_35 (lv_at hl 0 rfl) ?_
      refine wk_iald hx hb hK hP 0 0 rfl rfl (i := k) (by omega) (by decide) dX2_getSignedVar_37 ?_
      refine lv_istore (lv' := [(7, .int (f k)), (5, .int (nI k)), (0, .ref hn), (1, .int (nI w)), (2, .ref hw), (3, .ref ht), (4, .int c4), (6, .int (nI (2 * (k + 1))))]) hx hb dX2_getSignedVar_38 hl (by decide) rfl (fun ls hl => ?_)
      refine lv_aload_n hx hb dX2_getSignedVar_40 rfl (lv_at hl 5 rfl) ?_
      refine lv_iinc (v := nI (2 * k + 1)) (lv' := [(6, .int (nI (2 * k + 1))), (7, .int (f k)), (5, .int (nI k)), (0, .ref hn), (1, .int (nI w)), (2, .ref hw), (3, .ref ht), (4, .int c4)]) hx hb dX2_getSignedVar_41 hl (k := 7) rfl (by rw [show 2 * (k + 1) = (2 * k + 1) + 1 by omega]; exact pk_m1 (2 * k + 1)) (by decide) rfl (fun ls hl => ?_)
      refine lv_iload hx hb dX2_getSignedVar_44 (lv_at hl 0 rfl) ?_
      refine lv_iload hx hb dX2_getSignedVar_46 (lv_at hl 1 rfl) ?_
      refine lv_bipush (v := nI 16) hx hb dX2_getSignedVar_48 (by decide) ?_
      refine lv_iushr hx hb dX2_getSignedVar_50 rfl ?_
      refine lv_iload hx hb dX2_getSignedVar_51 (lv_at hl 7 rfl) ?_
      refine lv_bipush (v := nI 16) hx hb dX2_getSignedVar_53 (by decide) ?_
      refine lv_ishl hx hb dX2_getSignedVar_55 ?_
      refine lv_ior hx hb dX2_getSignedVar_56 ?_
      refine wk_iast hx hb hK hP hD hS 2 2 rfl rfl (i := (2 * k + 1)) (by omega) (by decide) dX2_getSignedVar_57 (fun H locs hP hD hS => ?_)
      have hP : va_P (dC, dI) vwCl [(hn, .inl (dn, 8, .inl f)), (hw, .inl (dw, 253, .inl g0)), (ht, .inl (dt, 16, .inl (upd t (2 * k + 1) (((Int32.toUInt32 (f k) >>> (Int32.toUInt32 (nI 16) &&& Int32.toUInt32 31)).toInt32) ||| (c4 <<< ((nI 16) &&& 31))))))] H := hP
      have hD : va_D A [(hn, .inl (dn, 8, .inl f)), (hw, .inl (dw, 253, .inl g0)), (ht, .inl (dt, 16, .inl (upd t (2 * k + 1) (((Int32.toUInt32 (f k) >>> (Int32.toUInt32 (nI 16) &&& Int32.toUInt32 31)).toInt32) ||| (c4 <<< ((nI 16) &&& 31))))))] := hD
      refine lv_aload_n hx hb dX2_getSignedVar_58 rfl (lv_at hl 6 rfl) ?_
      refine lv_iinc (v := nI (2 * k)) (lv' := [(6, .int (nI (2 * k))), (7, .int (f k)), (5, .int (nI k)), (0, .ref hn), (1, .int (nI w)), (2, .ref hw), (3, .ref ht), (4, .int c4)]) hx hb dX2_getSignedVar_59 hl (k := 0) rfl (pk_m1 (2 * k)) (by decide) rfl (fun ls hl => ?_)
      refine lv_iload hx hb dX2_getSignedVar_62 (lv_at hl 0 rfl) ?_
      refine lv_iload hx hb dX2_getSignedVar_64 (lv_at hl 1 rfl) ?_
      refine lv_dup hx hb dX2_getSignedVar_66 rfl ?_
      refine lv_istore (lv' := [(4, .int (f k)), (6, .int (nI (2 * k))), (7, .int (f k)), (5, .int (nI k)), (0, .ref hn), (1, .int (nI w)), (2, .ref hw), (3, .ref ht)]) hx hb dX2_getSignedVar_67 hl (by decide) rfl (fun ls hl => ?_)
      refine wk_iast hx hb hK hP hD hS 2 2 rfl rfl (i := (2 * k)) (by omega) (by decide) dX2_getSignedVar_69 (fun H locs hP hD hS => ?_)
      have hP : va_P (dC, dI) vwCl [(hn, .inl (dn, 8, .inl f)), (hw, .inl (dw, 253, .inl g0)), (ht, .inl (dt, 16, .inl (upd (upd t (2 * k + 1) (((Int32.toUInt32 (f k) >>> (Int32.toUInt32 (nI 16) &&& Int32.toUInt32 31)).toInt32) ||| (c4 <<< ((nI 16) &&& 31)))) (2 * k) (f k))))] H := hP
      have hD : va_D A [(hn, .inl (dn, 8, .inl f)), (hw, .inl (dw, 253, .inl g0)), (ht, .inl (dt, 16, .inl (upd (upd t (2 * k + 1) (((Int32.toUInt32 (f k) >>> (Int32.toUInt32 (nI 16) &&& Int32.toUInt32 31)).toInt32) ||| (c4 <<< ((nI 16) &&& 31)))) (2 * k) (f k))))] := hD
      refine lv_goto (tgt := 26) hx hb dX2_getSignedVar_70 (by decide) ?_
      have hl : lv_has ls 12 [(0, .ref hn), (1, .int (nI w)), (2, .ref hw), (3, .ref ht), (4, .int (f k)), (5, .int (nI k)), (6, .int (nI (2 * k)))] := lv_sub hl [4, 5, 6, 7, 0, 3, 1] rfl
      exact ih (f k) _ H locs ls (by omega) (by have := hf.2 k (by omega); omega) (wn_lay16 hf (by omega) hc htt) hP hD hS hl
  have hl : lv_has ls 12 [(0, .ref hn), (1, .int (nI w)), (2, .ref hw), (3, .ref ht), (4, .int (nI 0)), (5, .int (nI 8)), (6, .int (nI 16))] := lv_sub hl [4, 5, 6, 3, 2, 1, 0] rfl
  exact loop1 8 (nI 0) _ H _ ls (by decide) (by rw [Nat.div_eq_of_lt (Nat.lt_trans hf.1 (by decide))]; decide) (fun q h1 h2 => absurd h1 (by omega)) hP hD hS hl
end
section
/-! WnafDesk.find -/
set_option maxHeartbeats 4000000 in
set_option maxRecDepth 100000 in
/-- find(x): the digits of the number at width 3 + (x & 3) -/
theorem met_find (l : Launch) (dC : Nat → ClassId) (dI : Nat → Nat → Nat) (h0 hn hd : Nat) (wv : Int32) (dn : ClassId) (f : Nat → Int32) (sz : Nat) (x : Int32) (N : Nat) (hf : wn_is f N) : wk_Mv l yX1_find cX1_find 3 ({ frames := 1, cells := 2, slots := 269, locals := 31 } : Room) [.ref h0, .int x] sz (dC, dI) [(h0, .inr (0, [.ref hn, .ref hd, .int wv])), (hn, .inl (dn, 8, .inl f))] [(dn, .int)] (fun u : Nat × ClassId × (Nat → Int32) => ∀ q, q < 253 → (u.2.2 q).toInt = wn_dg (3 + wn_u x % 4) (N : Int) q) (fun u : Nat × ClassId × (Nat → Int32) => [(h0, .inr (0, [.ref hn, .ref u.1, .int (nI (3 + wn_u x % 4))])), (hn, .inl (dn, 8, .inl f)), (u.1, .inl (u.2.1, 253, .inl u.2.2))]) (fun u : Nat × ClassId × (Nat → Int32) => [(dn, .int), (u.2.1, .byte)]) 2 269 := by
  refine wk_met0 (fun A => va_Qv (fun u : Nat × ClassId × (Nat → Int32) => ∀ q, q < 253 → (u.2.2 q).toInt = wn_dg (3 + wn_u x % 4) (N : Int) q) (wk_B (dC, dI) vwCl A (fun u : Nat × ClassId × (Nat → Int32) => [(h0, .inr (0, [.ref hn, .ref u.1, .int (nI (3 + wn_u x % 4))])), (hn, .inl (dn, 8, .inl f)), (u.1, .inl (u.2.1, 253, .inl u.2.2))]) (fun u : Nat × ClassId × (Nat → Int32) => [(dn, .int), (u.2.1, .byte)])) A) (by decide) (Nat.le_of_ble_eq_true rfl) ?_
  intro p e s m below meth c A ls hx hb hr hml hlocks hts hown hnm hsz hP hK hD hS hA hl
  have hl : lv_has ls 3 [(0, .ref h0), (1, .int x)] := hl
  have hown : s.vm.findClass RX1 = some m.cls := hown
  have hP : va_P (dC, dI) vwCl [(h0, .inr (0, [.ref hn, .ref hd, .int wv])), (hn, .inl (dn, 8, .inl f))] s.heap := hP
  have hD : va_D A [(h0, .inr (0, [.ref hn, .ref hd, .int wv])), (hn, .inl (dn, 8, .inl f))] := hD
  refine lv_aload_n hx hb dX1_find_0 rfl (lv_at hl 0 rfl) ?_
  refine lv_iconst (v := nI 3) hx hb dX1_find_1 (by decide) ?_
  refine lv_iload_n hx hb dX1_find_2 rfl (lv_at hl 1 rfl) ?_
  refine lv_iconst (v := nI 3) hx hb dX1_find_3 (by decide) ?_
  refine lv_iand hx hb dX1_find_4 ?_
  refine lv_iadd hx hb dX1_find_5 ?_
  refine wk_top (y := nI (3 + wn_u x % 4)) (wn_width x) ?_
  refine va_put (D := (dC, dI)) (ci := 0) (v := .int (nI (3 + wn_u x % 4))) (ty := .int) (C := RX1) (T := TX1) (N := 3) hx hb hts in_X1 tyX1 tyX1_ok nmX1 hown hK hP hD hS 0 rfl rfl 2 (by decide) (hts _ q13) (fun _ h9 => h9) rfl (by decide +kernel) rfl rfl (Nat.le_of_ble_eq_true rfl) dX1_find_6 (fun H locs hP hD hS => ?_)
  have hP : va_P (dC, dI) vwCl [(h0, .inr (0, [.ref hn, .ref hd, .int (nI (3 + wn_u x % 4))])), (hn, .inl (dn, 8, .inl f))] H := hP
  have hD : va_D A [(h0, .inr (0, [.ref hn, .ref hd, .int (nI (3 + wn_u x % 4))])), (hn, .inl (dn, 8, .inl f))] := hD
  refine lv_sipush (v := nI 253) hx hb dX1_find_9 (by decide) ?_
  refine wk_newB hx hb (hts _ q22) hK hP hD hS hA (n := 253) (by decide) (Nat.le_of_ble_eq_true rfl) (Nat.le_of_ble_eq_true rfl) (Nat.le_of_ble_eq_true rfl) dX1_find_12 (fun hq dq H hK hP hD hS => ?_)
  have hK : va_K (dC, dI) vwCl [(dn, .int), (dq, .byte)] s := hK
  have hP : va_P (dC, dI) vwCl [(h0, .inr (0, [.ref hn, .ref hd, .int (nI (3 + wn_u x % 4))])), (hn, .inl (dn, 8, .inl f)), (hq, .inl (dq, 253, .inl (fun _ => 0)))] H := hP
  have hD : va_D A [(h0, .inr (0, [.ref hn, .ref hd, .int (nI (3 + wn_u x % 4))])), (hn, .inl (dn, 8, .inl f)), (hq, .inl (dq, 253, .inl (fun _ => 0)))] := hD
  refine lv_astore_n (lv' := [(2, .ref hq), (0, .ref h0), (1, .int x)]) hx hb dX1_find_14 rfl hl (by decide) rfl (fun ls hl => ?_)
  refine lv_aload_n hx hb dX1_find_15 rfl (lv_at hl 1 rfl) ?_
  refine va_get (D := (dC, dI)) (ci := 0) (v := .ref hn) (C := RX1) (T := TX1) (N := 3) hx hb hts in_X1 hown hK hP 0 rfl rfl 0 (by decide) (hts _ q11) (fun _ h9 => h9) rfl dX1_find_16 ?_
  refine lv_aload_n hx hb dX1_find_19 rfl (lv_at hl 1 rfl) ?_
  refine va_get (D := (dC, dI)) (ci := 0) (v := .int (nI (3 + wn_u x % 4))) (C := RX1) (T := TX1) (N := 3) hx hb hts in_X1 hown hK hP 0 rfl rfl 2 (by decide) (hts _ q13) (fun _ h9 => h9) rfl dX1_find_20 ?_
  refine lv_aload_n hx hb dX1_find_23 rfl (lv_at hl 0 rfl) ?_
  refine wk_callv (wr := [(h0, .inr (0, [.ref hn, .ref hd, .int (nI (3 + wn_u x % 4))]))]) (va_runS (As := [.ref hn, .int (nI (3 + wn_u x % 4)), .ref hq]) (rest := []) ⟨hx, hb, hml, hown, hts⟩ (met_gsv l dC dI hn hq dn dq f (fun _ => 0) H.size (3 + wn_u x % 4) N (wn_ok_of _) hf (fun _ _ => rfl)) (va_cwS 3 hts (lw_S q61 q62 q2 q63) rfl rfl rfl (by decide +kernel) ⟨Nat.le_of_ble_eq_true rfl, Nat.le_of_ble_eq_true rfl⟩) (wk_preS (hP.sub [1, 2] rfl) (hK.sub [0, 1] rfl) (hD.sub [1, 2] (by decide) rfl)) rfl rfl hl.1 rfl (lv_room (Nat.le_of_ble_eq_true rfl)) dX1_find_24 ⟨Nat.le_of_ble_eq_true rfl, Nat.le_of_ble_eq_true rfl⟩) hP hD hS hA hK [1, 2] [0] [] rfl rfl (by decide) (by decide) rfl (fun u_ H locs hg hP hK hD hS => ?_)
  have hP : va_P (dC, dI) vwCl [(h0, .inr (0, [.ref hn, .ref hd, .int (nI (3 + wn_u x % 4))])), (hn, .inl (dn, 8, .inl f)), (hq, .inl (dq, 253, .inl u_))] H := hP
  have hD : va_D A [(h0, .inr (0, [.ref hn, .ref hd, .int (nI (3 + wn_u x % 4))])), (hn, .inl (dn, 8, .inl f)), (hq, .inl (dq, 253, .inl u_))] := hD
  have hK : va_K (dC, dI) vwCl [(dn, .int), (dq, .byte)] s := hK
  refine lv_aload_n hx hb dX1_find_27 rfl (lv_at hl 1 rfl) ?_
  refine lv_aload_n hx hb dX1_find_28 rfl (lv_at hl 0 rfl) ?_
  refine va_put (D := (dC, dI)) (ci := 0) (v := .ref hq) (ty := .array .byte) (C := RX1) (T := TX1) (N := 3) hx hb hts in_X1 tyX1 tyX1_ok nmX1 hown hK hP hD hS 0 rfl rfl 1 (by decide) (hts _ q12) (fun _ h9 => h9) rfl (by decide +kernel) rfl rfl (Nat.le_of_ble_eq_true rfl) dX1_find_29 (fun H locs hP hD hS => ?_)
  have hP : va_P (dC, dI) vwCl [(h0, .inr (0, [.ref hn, .ref hq, .int (nI (3 + wn_u x % 4))])), (hn, .inl (dn, 8, .inl f)), (hq, .inl (dq, 253, .inl u_))] H := hP
  have hD : va_D A [(h0, .inr (0, [.ref hn, .ref hq, .int (nI (3 + wn_u x % 4))])), (hn, .inl (dn, 8, .inl f)), (hq, .inl (dq, 253, .inl u_))] := hD
  exact wk_endv (hq, dq, u_) hx hb hr hlocks hP hK hD hS hg (Nat.le_of_ble_eq_true rfl) (Nat.le_of_ble_eq_true rfl) dX1_find_32
end
section
/-! the law's own small methods -/
theorem wn_layed {f fa : Nat → Int32} (h7 : wn_u (fa 7) < 268435456) : ∀ k, k < 8 → upd (upd (upd (upd (upd (upd (upd (upd f 0 (fa 0)) 1 (fa 1)) 2 (fa 2)) 3 (fa 3)) 4 (fa 4)) 5 (fa 5)) 6 (fa 6)) 7 (fa 7 &&& 268435455) k = fa k := by
  intro k hk
  rw [wn_mask28 h7]
  rcases (show k = 0 ∨ k = 1 ∨ k = 2 ∨ k = 3 ∨ k = 4 ∨ k = 5 ∨ k = 6 ∨ k = 7 by omega) with rfl | rfl | rfl | rfl | rfl | rfl | rfl | rfl <;> simp [upd]
theorem wn_upd_s {f : Nat → Int32} {i : Nat} {x : Int32} {P : Nat → Int32 → Prop} (h : ∀ q, q < i → P q (f q)) (hx : P i x) : ∀ q, q < i + 1 → P q (upd f i x q) := by
  intro q hq
  by_cases c1 : q = i
  · rw [c1, pk_us]; exact hx
  · rw [pk_un c1]; exact h q (by omega)
theorem wn_cn_s (f : Nat → Int32) (i : Nat) (x : Nat) (h : x = if f i = 0 then 0 else 1) : nI (wn_cn f i) + nI x = nI (wn_cn f (i + 1)) := by
  rw [nI_add, h]
  rfl
theorem wn_ix (i : Nat) (h : i < 253) : wn_u (nI i) % 2 ^ 31 % 253 = i := by
  rw [wn_u_nI (by omega)]
  omega
theorem wn_27 (f : Nat → Int32) : wn_u (upd f 7 (f 7 &&& 134217727) 7) < 134217728 := by
  rw [pk_us, pk_and (f 7) (m := 134217727) 27 (by decide)]
  have h : (f 7).toBitVec.toNat % 2 ^ 27 < 134217728 := Nat.mod_lt _ (by decide)
  rw [wn_u_nI (Nat.lt_trans h (by decide))]
  exact h
theorem wn_A0 {sz : Nat} : ∀ q : Nat, q < sz → ¬ va_A [] sz q := by
  intro q hq h
  rcases h with ⟨k, e, h⟩ | h
  · simp at h
  · omega
theorem wn_P0 {D : va_G} {H : Heap} : va_P D vwCl [] H := fun k q h => by simp at h
theorem wn_D0 {A : Nat → Prop} : va_D A [] := ⟨fun i j p q h => by simp at h, fun k q h => by simp at h⟩
theorem wn_preX {s : State} {H : Heap} {b L : Nat} {xs : Nat → Int32} {As : List Value} (h : va_X b L xs s H) : PreS s H (va_Pc As (fun U => va_X b L xs U U.heap)) As :=
  ⟨fun a U g mk q => ⟨q.1, va_X.moved (u := U) (U := U.calling g mk a) (Vm.Alike.refl U.vm) q.2⟩, fun U hU hW => ⟨rfl, by show va_X b L xs U U.heap; rw [hU]; exact va_X.moved hW.alike h⟩⟩
set_option maxHeartbeats 4000000 in
set_option maxRecDepth 100000 in
/-- cell(s, k): some int -/
theorem met_cell (l : Launch) (b L : Nat) (xs : Nat → Int32) (k : Nat) (hL : L ≤ 24) (hk : k < 2 ^ 31) : Met l yX0_cell (ws_ yX0_cell cX0_cell 2 (some .int)) ({ frames := 0, cells := 0, slots := 0, locals := 0 } : Room) (va_Pc [.ref b, .int (nI k)] (fun U => va_X b L xs U U.heap)) (vp_Si (fun _ => True)) 0 0 (fun _ => False) := by
  refine Met.ofW (cc := cX0_cell) (maxL := 2) (ret := (some .int)) (by decide) rfl ?_
  intro p e s m args below meth c s₁ B hml hv
  obtain ⟨rfl, hX⟩ := hv
  have hx := B.exec
  have hb := B.bytes
  have hr := B.returns
  have hlocks := B.notSynchronized
  have hl := lv_entry ([.ref b, .int (nI k)] : List Value) (n := 2) (Nat.le_of_ble_eq_true rfl)
  rw [lg_entry_eq]
  generalize (lg_sl ([.ref b, .int (nI k)] : List Value) ++ List.replicate (2 - (lg_sl ([.ref b, .int (nI k)] : List Value)).length) Slot.unset).toArray = ls at hl ⊢
  have hl : lv_has ls 2 [(0, .ref b), (1, .int (nI k))] := hl
  have hbl : b < s.heap.size := by obtain ⟨scr, h1, -⟩ := hX; exact (Array.getElem?_eq_some_iff.mp h1).1
  have hS : va_S (fun _ => False) s.heap s.heap [] := va_S.rf
  refine lv_iload_n hx hb dX0_cell_0 rfl (lv_at hl 1 rfl) ?_
  refine lv_aload_n hx hb dX0_cell_1 rfl (lv_at hl 0 rfl) ?_
  refine va_slen hx hb hX hbl (fun h => h) hS dX0_cell_2 ?_
  refine lv_icmp_ge (tgt := 18) hx hb dX0_cell_3 (by decide) (fun c_1 => ?_) (fun c_1 => ?_)
  · refine lv_iconst (v := nI 0) hx hb dX0_cell_18 (by decide) ?_
    exact wk_endp hx hb hr rfl hlocks trivial dX0_cell_19
  · refine lv_iload_n hx hb dX0_cell_6 rfl (lv_at hl 1 rfl) ?_
    refine lv_bipush (v := nI 24) hx hb dX0_cell_7 (by decide) ?_
    refine lv_icmp_ge (tgt := 18) hx hb dX0_cell_9 (by decide) (fun c_2 => ?_) (fun c_2 => ?_)
    · refine lv_iconst (v := nI 0) hx hb dX0_cell_18 (by decide) ?_
      exact wk_endp hx hb hr rfl hlocks trivial dX0_cell_19
    · have hkL : k < L := by rcases Nat.lt_or_ge k L with h_ | h_; exact h_; exact absurd (nI_le h_ hk) c_1
      refine lv_aload_n hx hb dX0_cell_12 rfl (lv_at hl 0 rfl) ?_
      refine lv_iload_n hx hb dX0_cell_13 rfl (lv_at hl 1 rfl) ?_
      refine va_sld hx hb hX hbl (fun h => h) hS (vp_in_nI hkL (by omega)) dX0_cell_14 ?_
      refine lv_goto (tgt := 19) hx hb dX0_cell_15 (by decide) ?_
      exact wk_endp hx hb hr rfl hlocks trivial dX0_cell_19
set_option maxHeartbeats 4000000 in
set_option maxRecDepth 100000 in
/-- number(s, at): eight words, the top one below 2^27 -/
theorem met_number (l : Launch) (dC : Nat → ClassId) (dI : Nat → Nat → Nat) (b L : Nat) (xs : Nat → Int32) (at_ : Nat) (hL : L ≤ 24) (hat : at_ ≤ 9) (sz : Nat) : Met l yX0_number (ws_ yX0_number cX0_number 7 (some (.array .int))) ({ frames := 1, cells := 1, slots := 8, locals := 21 } : Room) (va_Pc [.ref b, .int (nI at_)] (fun U => U.heap.size = sz ∧ va_X b L xs U U.heap ∧ va_K (dC, dI) vwCl [] U)) (va_Qr (fun u : ClassId × (Nat → Int32) => wn_u (u.2 7) < 134217728) (wk_R (dC, dI) vwCl (va_A [] sz) (fun (u : ClassId × (Nat → Int32)) (a : Nat) => [(a, .inl (u.1, 8, .inl u.2))]) (fun u : ClassId × (Nat → Int32) => [(u.1, .int)])) (va_A [] sz)) 1 8 (va_A [] sz) := by
  refine Met.ofW (cc := cX0_number) (maxL := 7) (ret := (some (.array .int))) (by decide) rfl ?_
  intro p e s m args below meth c s₁ B hml hv
  obtain ⟨rfl, hsz, hX, hK⟩ := hv
  have hx := B.exec
  have hb := B.bytes
  have hr := B.returns
  have hlocks := B.notSynchronized
  have hown : s.vm.findClass RX0 = some m.cls := findClass_of_methodNamed B.named
  have hts := atoms_spec B.pre
  have hts : ∀ w ∈ lw_all, w.before _ s = true := fun w h => hts w (List.mem_cons_of_mem _ h)
  subst hsz
  have hA1 : ∀ q : Nat, q < s.heap.size → ¬ va_A [] s.heap.size q := wn_A0
  have hA : ∀ q : Nat, s.heap.size ≤ q → va_A [] s.heap.size q := fun q h => Or.inr h
  generalize va_A [] s.heap.size = A at hA hA1 ⊢
  have hS : va_S A s.heap s.heap [] := va_S.rf
  have hP : va_P (dC, dI) vwCl [] s.heap := wn_P0
  have hD : va_D A [] := wn_D0
  have hl := lv_entry ([.ref b, .int (nI at_)] : List Value) (n := 7) (Nat.le_of_ble_eq_true rfl)
  rw [lg_entry_eq]
  generalize (lg_sl ([.ref b, .int (nI at_)] : List Value) ++ List.replicate (7 - (lg_sl ([.ref b, .int (nI at_)] : List Value)).length) Slot.unset).toArray = ls at hl ⊢
  have hl : lv_has ls 7 [(0, .ref b), (1, .int (nI at_))] := hl
  refine wk_setQ (fun Q hQ => ?_)
  have hbl : b < s.heap.size := by obtain ⟨scr, h1, -⟩ := hX; exact (Array.getElem?_eq_some_iff.mp h1).1
  have hbA : ¬ A b := hA1 b hbl
  refine lv_bipush (v := nI 8) hx hb dX0_number_0 (by decide) ?_
  refine wk_newI hx hb (hts _ q21) hK hP hD hS hA (n := 8) (by decide) (Nat.le_of_ble_eq_true rfl) (Nat.le_of_ble_eq_true rfl) (Nat.le_of_ble_eq_true rfl) dX0_number_2 (fun ha da H hK hP hD hS => ?_)
  have hK : va_K (dC, dI) vwCl [(da, .int)] s := hK
  have hP : va_P (dC, dI) vwCl [(ha, .inl (da, 8, .inl (fun _ => 0)))] H := hP
  have hD : va_D A [(ha, .inl (da, 8, .inl (fun _ => 0)))] := hD
  refine W.widen (k := 1) (n := 8) (by decide) (by decide) ?_
  refine lv_astore_n (lv' := [(2, .ref ha), (0, .ref b), (1, .int (nI at_))]) hx hb dX0_number_4 rfl hl (by decide) rfl (fun ls hl => ?_)
  refine lv_aload_n hx hb dX0_number_5 rfl (lv_at hl 1 rfl) ?_
  refine lv_iload_n hx hb dX0_number_6 rfl (lv_at hl 2 rfl) ?_
  refine lv_bipush (v := nI 8) hx hb dX0_number_7 (by decide) ?_
  refine lv_iadd hx hb dX0_number_9 ?_
  refine wk_top (y := nI (at_ + 8)) (nI_add _ _) ?_
  refine vp_callSi (va_runS (As := [.ref b, .int (nI (at_ + 8))]) (rest := []) ⟨hx, hb, hml, hown, hts⟩ (met_cell l b L xs (at_ + 8) hL (by omega)) (va_cwS 2 hts (lw_S q32 q33 q0 q34) rfl rfl rfl (by decide +kernel) ⟨Nat.le_of_ble_eq_true rfl, Nat.le_of_ble_eq_true rfl⟩) (wn_preX (hX.kept (hS.2.1 b hbl hbA))) rfl rfl hl.1 rfl (lv_room (Nat.le_of_ble_eq_true rfl)) dX0_number_10 ⟨Nat.le_of_ble_eq_true rfl, Nat.le_of_ble_eq_true rfl⟩).run (fun x3 _ => ?_)
  refine lv_istore_n (lv' := [(3, .int x3), (2, .ref ha), (0, .ref b), (1, .int (nI at_))]) hx hb dX0_number_13 rfl hl (by decide) rfl (fun ls hl => ?_)
  refine lv_iload_n hx hb dX0_number_14 rfl (lv_at hl 0 rfl) ?_
  refine lv_iconst (v := nI 2) hx hb dX0_number_15 (by decide) ?_
  refine lv_ishr hx hb dX0_number_16 ?_
  refine lv_bipush (v := nI 7) hx hb dX0_number_17 (by decide) ?_
  refine lv_iand hx hb dX0_number_19 ?_
  refine lv_topi (fun pl epl => ?_)
  refine lv_istore (lv' := [(4, .int pl), (3, .int x3), (2, .ref ha), (0, .ref b), (1, .int (nI at_))]) hx hb dX0_number_20 hl (by decide) rfl (fun ls hl => ?_)
  refine lv_iconst (v := nI 0) hx hb dX0_number_22 (by decide) ?_
  refine lv_istore (lv' := [(5, .int (nI 0)), (4, .int pl), (3, .int x3), (2, .ref ha), (0, .ref b), (1, .int (nI at_))]) hx hb dX0_number_23 hl (by decide) rfl (fun ls hl => ?_)
  have loop : ∀ (n i : Nat) (g : Nat → Int32) (H : Heap) (locs : List Loc) (ls : Array Slot), n + i = 8 → va_P (dC, dI) vwCl [(ha, .inl (da, 8, .inl g))] H → va_D A [(ha, .inl (da, 8, .inl g))] → va_S A s.heap H locs → lv_has ls 7 [(0, .ref b), (1, .int (nI at_)), (2, .ref ha), (3, .int x3), (4, .int pl), (5, .int (nI i))] → W p l e ({ frames := 1, cells := 1, slots := 8, locals := 21 } : Room) s m ([.ref b, .int (nI at_)] : List Value).toArray below meth c H locs 1 8 Q (F0 m 25 ls []) := by
    intro n
    induction n with
    | zero =>
      intro i g H locs ls hi hP hD hS hl
      have hi : i = 8 := by omega
      subst hi
      refine lv_iload hx hb dX0_number_25 (lv_at hl 5 rfl) ?_
      refine lv_bipush (v := nI 8) hx hb dX0_number_27 (by decide) ?_
      refine lv_icmp_ge (tgt := 142) hx hb dX0_number_29 (by decide) (fun _ => ?_) (fun c_ => absurd (Int32.le_refl _) c_)
      refine lv_aload_n hx hb dX0_number_142 rfl (lv_at hl 2 rfl) ?_
      refine lv_bipush (v := nI 7) hx hb dX0_number_143 (by decide) ?_
      refine lv_dup2_11 hx hb dX0_number_145 rfl rfl ?_
      refine wk_iald hx hb hK hP 0 0 rfl rfl (i := 7) (by decide) (by decide) dX0_number_146 ?_
      refine lv_ldc (v := 134217727) hx hb hown (hts _ q38) dX0_number_147 ?_
      refine lv_iand hx hb dX0_number_149 ?_
      refine wk_iast hx hb hK hP hD hS 0 0 rfl rfl (i := 7) (by decide) (by decide) dX0_number_150 (fun H locs hP hD hS => ?_)
      have hP : va_P (dC, dI) vwCl [(ha, .inl (da, 8, .inl (upd g 7 ((g 7) &&& 134217727))))] H := hP
      have hD : va_D A [(ha, .inl (da, 8, .inl (upd g 7 ((g 7) &&& 134217727))))] := hD
      refine lv_aload_n hx hb dX0_number_151 rfl (lv_at hl 2 rfl) ?_
      subst hQ
      exact wk_endr (da, _) hx hb hr hlocks hP hK hD hS (wn_27 g) (Nat.le_of_ble_eq_true rfl) (Nat.le_of_ble_eq_true rfl) dX0_number_152
    | succ n ih =>
      intro i g H locs ls hi hP hD hS hl
      have hi8 : i < 8 := by omega
      refine lv_iload hx hb dX0_number_25 (lv_at hl 5 rfl) ?_
      refine lv_bipush (v := nI 8) hx hb dX0_number_27 (by decide) ?_
      refine lv_icmp_ge (tgt := 142) hx hb dX0_number_29 (by decide) (fun c_ => absurd c_ (nI_ge hi8 (by decide))) (fun _ => ?_)
      refine lv_aload_n hx hb dX0_number_32 rfl (lv_at hl 0 rfl) ?_
      refine lv_iload_n hx hb dX0_number_33 rfl (lv_at hl 1 rfl) ?_
      refine lv_iload hx hb dX0_number_34 (lv_at hl 5 rfl) ?_
      refine lv_iadd hx hb dX0_number_36 ?_
      refine wk_top (y := nI (at_ + i)) (nI_add _ _) ?_
      refine vp_callSi (va_runS (As := [.ref b, .int (nI (at_ + i))]) (rest := []) ⟨hx, hb, hml, hown, hts⟩ (met_cell l b L xs (at_ + i) hL (by omega)) (va_cwS 2 hts (lw_S q32 q33 q0 q34) rfl rfl rfl (by decide +kernel) ⟨Nat.le_of_ble_eq_true rfl, Nat.le_of_ble_eq_true rfl⟩) (wn_preX (hX.kept (hS.2.1 b hbl hbA))) rfl rfl hl.1 rfl (lv_room (Nat.le_of_ble_eq_true rfl)) dX0_number_37 ⟨Nat.le_of_ble_eq_true rfl, Nat.le_of_ble_eq_true rfl⟩).run (fun x6 _ => ?_)
      refine lv_istore (lv' := [(6, .int x6), (0, .ref b), (1, .int (nI at_)), (2, .ref ha), (3, .int x3), (4, .int pl), (5, .int (nI i))]) hx hb dX0_number_40 hl (by decide) rfl (fun ls hl => ?_)
      have tail : ∀ (g : Nat → Int32) (H : Heap) (locs : List Loc) (ls : Array Slot), va_P (dC, dI) vwCl [(ha, .inl (da, 8, .inl g))] H → va_D A [(ha, .inl (da, 8, .inl g))] → va_S A s.heap H locs → lv_has ls 7 [(0, .ref b), (1, .int (nI at_)), (2, .ref ha), (3, .int x3), (4, .int pl), (5, .int (nI i))] → W p l e ({ frames := 1, cells := 1, slots := 8, locals := 21 } : Room) s m ([.ref b, .int (nI at_)] : List Value).toArray below meth c H locs 1 8 Q (F0 m 136 ls []) := by
        intro g H locs ls hP hD hS hl
        refine lv_iinc (v := nI (i + 1)) (lv' := [(5, .int (nI (i + 1))), (0, .ref b), (1, .int (nI at_)), (2, .ref ha), (3, .int x3), (4, .int pl)]) hx hb dX0_number_136 hl (k := 5) rfl (nI_1 i) (by decide) rfl (fun ls hl => ?_)
        refine lv_goto (tgt := 25) hx hb dX0_number_139 (by decide) ?_
        have hl : lv_has ls 7 [(0, .ref b), (1, .int (nI at_)), (2, .ref ha), (3, .int x3), (4, .int pl), (5, .int (nI (i + 1)))] := lv_sub hl [1, 2, 3, 4, 5, 0] rfl
        exact ih (i + 1) g H locs ls (by omega) hP hD hS hl
      refine lv_iload_n hx hb dX0_number_42 rfl (lv_at hl 4 rfl) ?_
      refine lv_iconst (v := nI 3) hx hb dX0_number_43 (by decide) ?_
      refine lv_iand hx hb dX0_number_44 ?_
      obtain ⟨v, hv4, ev⟩ := pk_andE x3 (m := nI 3) 2 (by decide)
      refine wk_top (y := nI v) (ev) ?_
      rcases (show v = 0 ∨ v = 1 ∨ v = 2 ∨ v = 3 by omega) with rfl | rfl | rfl | rfl
      · refine lv_tableIn (off := 27) (tgt := 72) hx hb dX0_number_45 (by decide) (by decide) (by decide) (by decide) ?_
        refine lv_aload_n hx hb dX0_number_72 rfl (lv_at hl 3 rfl) ?_
        refine lv_iload hx hb dX0_number_73 (lv_at hl 6 rfl) ?_
        refine lv_iload hx hb dX0_number_75 (lv_at hl 0 rfl) ?_
        refine wk_iast hx hb hK hP hD hS 0 0 rfl rfl (i := i) (hi8) (by decide) dX0_number_77 (fun H locs hP hD hS => ?_)
        have hP : va_P (dC, dI) vwCl [(ha, .inl (da, 8, .inl (upd g i x6)))] H := hP
        have hD : va_D A [(ha, .inl (da, 8, .inl (upd g i x6)))] := hD
        refine lv_goto (tgt := 136) hx hb dX0_number_78 (by decide) ?_
        have hl : lv_has ls 7 [(0, .ref b), (1, .int (nI at_)), (2, .ref ha), (3, .int x3), (4, .int pl), (5, .int (nI i))] := lv_sub hl [1, 2, 3, 4, 5, 6] rfl
        exact tail _ H locs ls hP hD hS hl
      · refine lv_tableIn (off := 36) (tgt := 81) hx hb dX0_number_45 (by decide) (by decide) (by decide) (by decide) ?_
        refine lv_aload_n hx hb dX0_number_81 rfl (lv_at hl 3 rfl) ?_
        refine lv_iload hx hb dX0_number_82 (lv_at hl 6 rfl) ?_
        refine lv_iload hx hb dX0_number_84 (lv_at hl 6 rfl) ?_
        refine lv_iload hx hb dX0_number_86 (lv_at hl 5 rfl) ?_
        refine lv_icmp_ne (tgt := 96) hx hb dX0_number_88 (by decide) (fun c_1 => ?_) (fun c_1 => ?_)
        · refine lv_iconst (v := nI 0) hx hb dX0_number_96 (by decide) ?_
          refine wk_iast hx hb hK hP hD hS 0 0 rfl rfl (i := i) (hi8) (by decide) dX0_number_97 (fun H locs hP hD hS => ?_)
          have hP : va_P (dC, dI) vwCl [(ha, .inl (da, 8, .inl (upd g i (nI 0))))] H := hP
          have hD : va_D A [(ha, .inl (da, 8, .inl (upd g i (nI 0))))] := hD
          refine lv_goto (tgt := 136) hx hb dX0_number_98 (by decide) ?_
          have hl : lv_has ls 7 [(0, .ref b), (1, .int (nI at_)), (2, .ref ha), (3, .int x3), (4, .int pl), (5, .int (nI i))] := lv_sub hl [1, 2, 3, 4, 5, 6] rfl
          exact tail _ H locs ls hP hD hS hl
        · refine lv_iload hx hb dX0_number_91 (lv_at hl 0 rfl) ?_
          refine lv_goto (tgt := 97) hx hb dX0_number_93 (by decide) ?_
          refine wk_iast hx hb hK hP hD hS 0 0 rfl rfl (i := i) (hi8) (by decide) dX0_number_97 (fun H locs hP hD hS => ?_)
          have hP : va_P (dC, dI) vwCl [(ha, .inl (da, 8, .inl (upd g i x6)))] H := hP
          have hD : va_D A [(ha, .inl (da, 8, .inl (upd g i x6)))] := hD
          refine lv_goto (tgt := 136) hx hb dX0_number_98 (by decide) ?_
          have hl : lv_has ls 7 [(0, .ref b), (1, .int (nI at_)), (2, .ref ha), (3, .int x3), (4, .int pl), (5, .int (nI i))] := lv_sub hl [1, 2, 3, 4, 5, 6] rfl
          exact tail _ H locs ls hP hD hS hl
      · refine lv_tableIn (off := 56) (tgt := 101) hx hb dX0_number_45 (by decide) (by decide) (by decide) (by decide) ?_
        refine lv_aload_n hx hb dX0_number_101 rfl (lv_at hl 3 rfl) ?_
        refine lv_iload hx hb dX0_number_102 (lv_at hl 6 rfl) ?_
        refine lv_iload hx hb dX0_number_104 (lv_at hl 6 rfl) ?_
        refine lv_iload hx hb dX0_number_106 (lv_at hl 5 rfl) ?_
        refine lv_icmp_ne (tgt := 116) hx hb dX0_number_108 (by decide) (fun c_1 => ?_) (fun c_1 => ?_)
        · refine lv_iconst (v := -1) hx hb dX0_number_116 (by decide) ?_
          refine wk_iast hx hb hK hP hD hS 0 0 rfl rfl (i := i) (hi8) (by decide) dX0_number_117 (fun H locs hP hD hS => ?_)
          have hP : va_P (dC, dI) vwCl [(ha, .inl (da, 8, .inl (upd g i (-1))))] H := hP
          have hD : va_D A [(ha, .inl (da, 8, .inl (upd g i (-1))))] := hD
          refine lv_goto (tgt := 136) hx hb dX0_number_118 (by decide) ?_
          have hl : lv_has ls 7 [(0, .ref b), (1, .int (nI at_)), (2, .ref ha), (3, .int x3), (4, .int pl), (5, .int (nI i))] := lv_sub hl [1, 2, 3, 4, 5, 6] rfl
          exact tail _ H locs ls hP hD hS hl
        · refine lv_iload hx hb dX0_number_111 (lv_at hl 0 rfl) ?_
          refine lv_goto (tgt := 117) hx hb dX0_number_113 (by decide) ?_
          refine wk_iast hx hb hK hP hD hS 0 0 rfl rfl (i := i) (hi8) (by decide) dX0_number_117 (fun H locs hP hD hS => ?_)
          have hP : va_P (dC, dI) vwCl [(ha, .inl (da, 8, .inl (upd g i x6)))] H := hP
          have hD : va_D A [(ha, .inl (da, 8, .inl (upd g i x6)))] := hD
          refine lv_goto (tgt := 136) hx hb dX0_number_118 (by decide) ?_
          have hl : lv_has ls 7 [(0, .ref b), (1, .int (nI at_)), (2, .ref ha), (3, .int x3), (4, .int pl), (5, .int (nI i))] := lv_sub hl [1, 2, 3, 4, 5, 6] rfl
          exact tail _ H locs ls hP hD hS hl
      · refine lv_tableOut (tgt := 121) hx hb dX0_number_45 (by decide) (by decide) ?_
        refine lv_aload_n hx hb dX0_number_121 rfl (lv_at hl 3 rfl) ?_
        refine lv_iload hx hb dX0_number_122 (lv_at hl 6 rfl) ?_
        refine lv_iload hx hb dX0_number_124 (lv_at hl 6 rfl) ?_
        refine lv_if_ne (tgt := 134) hx hb dX0_number_126 (by decide) (fun c_1 => ?_) (fun c_1 => ?_)
        · refine lv_iconst (v := nI 0) hx hb dX0_number_134 (by decide) ?_
          refine wk_iast hx hb hK hP hD hS 0 0 rfl rfl (i := i) (hi8) (by decide) dX0_number_135 (fun H locs hP hD hS => ?_)
          have hP : va_P (dC, dI) vwCl [(ha, .inl (da, 8, .inl (upd g i (nI 0))))] H := hP
          have hD : va_D A [(ha, .inl (da, 8, .inl (upd g i (nI 0))))] := hD
          have hl : lv_has ls 7 [(0, .ref b), (1, .int (nI at_)), (2, .ref ha), (3, .int x3), (4, .int pl), (5, .int (nI i))] := lv_sub hl [1, 2, 3, 4, 5, 6] rfl
          exact tail _ H locs ls hP hD hS hl
        · refine lv_iload hx hb dX0_number_129 (lv_at hl 0 rfl) ?_
          refine lv_goto (tgt := 135) hx hb dX0_number_131 (by decide) ?_
          refine wk_iast hx hb hK hP hD hS 0 0 rfl rfl (i := i) (hi8) (by decide) dX0_number_135 (fun H locs hP hD hS => ?_)
          have hP : va_P (dC, dI) vwCl [(ha, .inl (da, 8, .inl (upd g i x6)))] H := hP
          have hD : va_D A [(ha, .inl (da, 8, .inl (upd g i x6)))] := hD
          have hl : lv_has ls 7 [(0, .ref b), (1, .int (nI at_)), (2, .ref ha), (3, .int x3), (4, .int pl), (5, .int (nI i))] := lv_sub hl [1, 2, 3, 4, 5, 6] rfl
          exact tail _ H locs ls hP hD hS hl
  have hl : lv_has ls 7 [(0, .ref b), (1, .int (nI at_)), (2, .ref ha), (3, .int x3), (4, .int pl), (5, .int (nI 0))] := lv_sub hl [4, 5, 3, 2, 1, 0] rfl
  exact loop 8 0 _ H _ ls (by decide) hP hD hS hl
set_option maxHeartbeats 4000000 in
set_option maxRecDepth 100000 in
/-- sum(a, b): a new array that holds the sum; a and b are only read (and may be one) -/
theorem met_sum (l : Launch) (dC : Nat → ClassId) (dI : Nat → Nat → Nat) (ha hc : Nat) (da dc : ClassId) (fa fc : Nat → Int32) (N M : Nat) (hfa : wn_is fa N) (hfc : wn_is fc M) (hNM : N + M < 2 ^ 252) (sz : Nat) : Met l yX0_sum (ws_ yX0_sum cX0_sum 6 (some (.array .int))) ({ frames := 0, cells := 1, slots := 8, locals := 0 } : Room) (va_Pc [.ref ha, .ref hc] (fun U => U.heap.size = sz ∧ va_P (dC, dI) vwCl [(ha, .inl (da, 8, .inl fa)), (hc, .inl (dc, 8, .inl fc))] U.heap ∧ va_K (dC, dI) vwCl [(da, .int), (dc, .int)] U)) (va_Qr (fun u : ClassId × (Nat → Int32) => wn_is u.2 (N + M)) (wk_R (dC, dI) vwCl (va_A [] sz) (fun (u : ClassId × (Nat → Int32)) (a : Nat) => [(a, .inl (u.1, 8, .inl u.2))]) (fun u : ClassId × (Nat → Int32) => [(u.1, .int)])) (va_A [] sz)) 1 8 (va_A [] sz) := by
  refine Met.ofW (cc := cX0_sum) (maxL := 6) (ret := (some (.array .int))) (by decide) rfl ?_
  intro p e s m args below meth c s₁ B hml hv
  obtain ⟨rfl, hsz, hR0, hK⟩ := hv
  have hx := B.exec
  have hb := B.bytes
  have hr := B.returns
  have hlocks := B.notSynchronized
  have hown : s.vm.findClass RX0 = some m.cls := findClass_of_methodNamed B.named
  have hts := atoms_spec B.pre
  have hts : ∀ w ∈ lw_all, w.before _ s = true := fun w h => hts w (List.mem_cons_of_mem _ h)
  subst hsz
  have hA1 : ∀ q : Nat, q < s.heap.size → ¬ va_A [] s.heap.size q := wn_A0
  have hA : ∀ q : Nat, s.heap.size ≤ q → va_A [] s.heap.size q := fun q h => Or.inr h
  generalize va_A [] s.heap.size = A at hA hA1 ⊢
  have hS : va_S A s.heap s.heap [] := va_S.rf
  have hP : va_P (dC, dI) vwCl [] s.heap := wn_P0
  have hD : va_D A [] := wn_D0
  have hl := lv_entry ([.ref ha, .ref hc] : List Value) (n := 6) (Nat.le_of_ble_eq_true rfl)
  rw [lg_entry_eq]
  generalize (lg_sl ([.ref ha, .ref hc] : List Value) ++ List.replicate (6 - (lg_sl ([.ref ha, .ref hc] : List Value)).length) Slot.unset).toArray = ls at hl ⊢
  have hl : lv_has ls 6 [(0, .ref ha), (1, .ref hc)] := hl
  refine wk_setQ (fun Q hQ => ?_)
  refine lv_bipush (v := nI 8) hx hb dX0_sum_0 (by decide) ?_
  refine wk_newI hx hb (hts _ q21) hK hP hD hS hA (n := 8) (by decide) (Nat.le_of_ble_eq_true rfl) (Nat.le_of_ble_eq_true rfl) (Nat.le_of_ble_eq_true rfl) dX0_sum_2 (fun hz dz H hK hP hD hS => ?_)
  have hK : va_K (dC, dI) vwCl [(da, .int), (dc, .int), (dz, .int)] s := hK
  have hP : va_P (dC, dI) vwCl [(hz, .inl (dz, 8, .inl (fun _ => 0)))] H := hP
  have hD : va_D A [(hz, .inl (dz, 8, .inl (fun _ => 0)))] := hD
  refine W.widen (k := 1) (n := 8) (by decide) (by decide) ?_
  refine lv_astore_n (lv' := [(2, .ref hz), (0, .ref ha), (1, .ref hc)]) hx hb dX0_sum_4 rfl hl (by decide) rfl (fun ls hl => ?_)
  refine lv_lconst (v := lN 0) hx hb dX0_sum_5 rfl ?_
  refine lv_lstore_n (lv' := [(3, .long (lN 0)), (2, .ref hz), (0, .ref ha), (1, .ref hc)]) hx hb dX0_sum_6 rfl hl (by decide) rfl (fun ls hl => ?_)
  refine lv_iconst (v := nI 0) hx hb dX0_sum_7 (by decide) ?_
  refine lv_istore (lv' := [(5, .int (nI 0)), (3, .long (lN 0)), (2, .ref hz), (0, .ref ha), (1, .ref hc)]) hx hb dX0_sum_8 hl (by decide) rfl (fun ls hl => ?_)
  have loop : ∀ (n i o : Nat) (g : Nat → Int32) (H : Heap) (locs : List Loc) (ls : Array Slot), n + i = 8 → wn_ov N M i o → (∀ q, q < i → wn_u (g q) = (N + M) / 2 ^ (32 * q) % 4294967296) → va_P (dC, dI) vwCl [(hz, .inl (dz, 8, .inl g))] H → va_D A [(hz, .inl (dz, 8, .inl g))] → va_S A s.heap H locs → lv_has ls 6 [(0, .ref ha), (1, .ref hc), (2, .ref hz), (3, .long (lN o)), (5, .int (nI i))] → W p l e ({ frames := 0, cells := 1, slots := 8, locals := 0 } : Room) s m ([.ref ha, .ref hc] : List Value).toArray below meth c H locs 1 8 Q (F0 m 10 ls []) := by
    intro n
    induction n with
    | zero =>
      intro i o g H locs ls hi ho hg hP hD hS hl
      have hi : i = 8 := by omega
      subst hi
      refine lv_iload hx hb dX0_sum_10 (lv_at hl 4 rfl) ?_
      refine lv_bipush (v := nI 8) hx hb dX0_sum_12 (by decide) ?_
      refine lv_icmp_ge (tgt := 56) hx hb dX0_sum_14 (by decide) (fun _ => ?_) (fun c_ => absurd (Int32.le_refl _) c_)
      refine lv_aload_n hx hb dX0_sum_56 rfl (lv_at hl 2 rfl) ?_
      subst hQ
      exact wk_endr (dz, g) hx hb hr hlocks hP (hK.sub [2] rfl) hD hS ⟨hNM, hg⟩ (Nat.le_of_ble_eq_true rfl) (Nat.le_of_ble_eq_true rfl) dX0_sum_57
    | succ n ih =>
      intro i o g H locs ls hi ho hg hP hD hS hl
      have hi8 : i < 8 := by omega
      have hR := wk_ro hR0 hS hA1
      have u1 := wn_u_lt (fa i)
      have u2 := wn_u_lt (fc i)
      have u3 := ho.1
      obtain ⟨s1, s2⟩ := wn_ov_s ho (hfa.2 i hi8) (hfc.2 i hi8)
      refine lv_iload hx hb dX0_sum_10 (lv_at hl 4 rfl) ?_
      refine lv_bipush (v := nI 8) hx hb dX0_sum_12 (by decide) ?_
      refine lv_icmp_ge (tgt := 56) hx hb dX0_sum_14 (by decide) (fun c_ => absurd c_ (nI_ge hi8 (by decide))) (fun _ => ?_)
      refine lv_lload_n hx hb dX0_sum_17 rfl (lv_at hl 3 rfl) ?_
      refine lv_aload_n hx hb dX0_sum_18 rfl (lv_at hl 0 rfl) ?_
      refine lv_iload hx hb dX0_sum_19 (lv_at hl 4 rfl) ?_
      refine wk_iald hx hb hK hR 0 0 rfl rfl (i := i) (hi8) (by decide) dX0_sum_21 ?_
      refine lv_i2l hx hb dX0_sum_22 rfl ?_
      refine lv_ldc2 (v := 4294967295) hx hb hown (hts _ q42) dX0_sum_23 ?_
      refine lv_land hx hb dX0_sum_26 ?_
      refine wk_topl (y := lN (wn_u (fa i))) (wn_low32 _) ?_
      refine lv_aload_n hx hb dX0_sum_27 rfl (lv_at hl 1 rfl) ?_
      refine lv_iload hx hb dX0_sum_28 (lv_at hl 4 rfl) ?_
      refine wk_iald hx hb hK hR 1 1 rfl rfl (i := i) (hi8) (by decide) dX0_sum_30 ?_
      refine lv_i2l hx hb dX0_sum_31 rfl ?_
      refine lv_ldc2 (v := 4294967295) hx hb hown (hts _ q42) dX0_sum_32 ?_
      refine lv_land hx hb dX0_sum_35 ?_
      refine wk_topl (y := lN (wn_u (fc i))) (wn_low32 _) ?_
      refine lv_ladd hx hb dX0_sum_36 ?_
      refine wk_topl (y := lN (wn_u (fa i) + wn_u (fc i))) (lN_add _ _) ?_
      refine lv_ladd hx hb dX0_sum_37 ?_
      refine wk_topl (y := lN (o + (wn_u (fa i) + wn_u (fc i)))) (lN_add _ _) ?_
      refine lv_lstore_n (lv' := [(3, .long (lN (o + (wn_u (fa i) + wn_u (fc i))))), (0, .ref ha), (1, .ref hc), (2, .ref hz), (5, .int (nI i))]) hx hb dX0_sum_38 rfl hl (by decide) rfl (fun ls hl => ?_)
      refine lv_aload_n hx hb dX0_sum_39 rfl (lv_at hl 3 rfl) ?_
      refine lv_iload hx hb dX0_sum_40 (lv_at hl 4 rfl) ?_
      refine lv_lload_n hx hb dX0_sum_42 rfl (lv_at hl 0 rfl) ?_
      refine lv_l2i hx hb dX0_sum_43 rfl ?_
      refine wk_top (y := nI (o + (wn_u (fa i) + wn_u (fc i)))) (wn_l2i _) ?_
      refine wk_iast hx hb hK hP hD hS 0 2 rfl rfl (i := i) (hi8) (by decide) dX0_sum_44 (fun H locs hP hD hS => ?_)
      have hP : va_P (dC, dI) vwCl [(hz, .inl (dz, 8, .inl (upd g i (nI (o + (wn_u (fa i) + wn_u (fc i)))))))] H := hP
      have hD : va_D A [(hz, .inl (dz, 8, .inl (upd g i (nI (o + (wn_u (fa i) + wn_u (fc i)))))))] := hD
      refine lv_lload_n hx hb dX0_sum_45 rfl (lv_at hl 0 rfl) ?_
      refine lv_bipush (v := nI 32) hx hb dX0_sum_46 (by decide) ?_
      refine lv_lshr hx hb dX0_sum_48 rfl ?_
      refine wk_topl (y := lN ((o + (wn_u (fa i) + wn_u (fc i))) / 4294967296)) (wn_lshr (by omega)) ?_
      refine lv_lstore_n (lv' := [(3, .long (lN ((o + (wn_u (fa i) + wn_u (fc i))) / 4294967296))), (0, .ref ha), (1, .ref hc), (2, .ref hz), (5, .int (nI i))]) hx hb dX0_sum_49 rfl hl (by decide) rfl (fun ls hl => ?_)
      refine lv_iinc (v := nI (i + 1)) (lv' := [(5, .int (nI (i + 1))), (3, .long (lN ((o + (wn_u (fa i) + wn_u (fc i))) / 4294967296))), (0, .ref ha), (1, .ref hc), (2, .ref hz)]) hx hb dX0_sum_50 hl (k := 4) rfl (nI_1 i) (by decide) rfl (fun ls hl => ?_)
      refine lv_goto (tgt := 10) hx hb dX0_sum_53 (by decide) ?_
      have hl : lv_has ls 6 [(0, .ref ha), (1, .ref hc), (2, .ref hz), (3, .long (lN ((o + (wn_u (fa i) + wn_u (fc i))) / 4294967296))), (5, .int (nI (i + 1)))] := lv_sub hl [2, 3, 4, 1, 0] rfl
      exact ih (i + 1) _ _ H locs ls (by omega) s2 (wn_upd_s (P := fun q x => wn_u x = (N + M) / 2 ^ (32 * q) % 4294967296) hg (by rw [wn_u_mod]; exact s1)) hP hD hS hl
  have hl : lv_has ls 6 [(0, .ref ha), (1, .ref hc), (2, .ref hz), (3, .long (lN 0)), (5, .int (nI 0))] := lv_sub hl [3, 4, 2, 1, 0] rfl
  exact loop 8 0 0 _ H _ ls (by decide) (wn_ov_0 N M) (fun q h => absurd h (Nat.not_lt_zero q)) hP hD hS hl
set_option maxHeartbeats 4000000 in
set_option maxRecDepth 100000 in
/-- bit(n, i): place i of the number -/
theorem met_bit (l : Launch) (dC : Nat → ClassId) (dI : Nat → Nat → Nat) (hn : Nat) (dn : ClassId) (f : Nat → Int32) (N i : Nat) (hf : wn_is f N) (hi : i < 253) : wk_Mp l yX0_bit cX0_bit 2 (some .int) ({ frames := 0, cells := 0, slots := 0, locals := 0 } : Room) [.ref hn, .int (nI i)] (dC, dI) [(hn, .inl (dn, 8, .inl f))] [(dn, .int)] (fun r => r = nI (N / 2 ^ i % 2)) := by
  refine wk_mp (by decide) (Nat.le_of_ble_eq_true rfl) ?_
  intro p e s m below meth c ls hx hb hr hml hlocks hts hown hP hK hl
  have hl : lv_has ls 2 [(0, .ref hn), (1, .int (nI i))] := hl
  have hown : s.vm.findClass RX0 = some m.cls := hown
  refine lv_iload_n hx hb dX0_bit_0 rfl (lv_at hl 1 rfl) ?_
  refine lv_sipush (v := nI 252) hx hb dX0_bit_1 (by decide) ?_
  refine lv_icmp_ge (tgt := 22) hx hb dX0_bit_4 (by decide) (fun c_1 => ?_) (fun c_1 => ?_)
  · have hi2 : i = 252 := by have := (nI_leI (by decide) (by omega)).mp c_1; omega
    refine lv_iconst (v := nI 0) hx hb dX0_bit_22 (by decide) ?_
    exact wk_endp hx hb hr rfl hlocks (by rw [hi2, wn_is_bit0 hf]) dX0_bit_23
  · have hi2 : i < 252 := by rcases Nat.lt_or_ge i 252 with h_ | h_; exact h_; exact absurd (nI_le h_ (by omega)) c_1
    refine lv_aload_n hx hb dX0_bit_7 rfl (lv_at hl 0 rfl) ?_
    refine lv_iload_n hx hb dX0_bit_8 rfl (lv_at hl 1 rfl) ?_
    refine lv_iconst (v := nI 5) hx hb dX0_bit_9 (by decide) ?_
    refine lv_ishr hx hb dX0_bit_10 ?_
    refine wk_top (y := nI (i / 32)) (wn_bit_ix hi2) ?_
    refine wk_iald hx hb hK hP 0 0 rfl rfl (i := (i / 32)) (by omega) (by decide) dX0_bit_11 ?_
    refine lv_iload_n hx hb dX0_bit_12 rfl (lv_at hl 1 rfl) ?_
    refine lv_bipush (v := nI 31) hx hb dX0_bit_13 (by decide) ?_
    refine lv_iand hx hb dX0_bit_15 ?_
    refine wk_top (y := nI (i % 32)) (wn_bit_sh hi2) ?_
    refine lv_ishr hx hb dX0_bit_16 ?_
    refine lv_iconst (v := 1) hx hb dX0_bit_17 (by decide) ?_
    refine lv_iand hx hb dX0_bit_18 ?_
    refine wk_top (y := nI (N / 2 ^ i % 2)) ((wn_sbit _ (Nat.mod_lt i (by decide))).trans (by rw [wn_is_bit hf (by omega)])) ?_
    refine lv_goto (tgt := 23) hx hb dX0_bit_19 (by decide) ?_
    exact wk_endp hx hb hr rfl hlocks rfl dX0_bit_23
set_option maxHeartbeats 4000000 in
set_option maxRecDepth 100000 in
/-- lay(d, n): the desk has the words of n -/
theorem met_slay (l : Launch) (dC : Nat → ClassId) (dI : Nat → Nat → Nat) (h0 hn hd ha : Nat) (wv : Int32) (dn da : ClassId) (f fa : Nat → Int32) (sz : Nat) (h7 : wn_u (fa 7) < 268435456) : wk_Mv l yX0_lay cX0_lay 2 ({ frames := 1, cells := 0, slots := 0, locals := 26 } : Room) [.ref h0, .ref ha] sz (dC, dI) [(h0, .inr (0, [.ref hn, .ref hd, .int wv])), (hn, .inl (dn, 8, .inl f)), (ha, .inl (da, 8, .inl fa))] [(dn, .int), (da, .int)] (fun u : Nat → Int32 => ∀ k, k < 8 → u k = fa k) (fun u : Nat → Int32 => [(h0, .inr (0, [.ref hn, .ref hd, .int wv])), (hn, .inl (dn, 8, .inl u)), (ha, .inl (da, 8, .inl fa))]) (fun _ : Nat → Int32 => [(dn, .int), (da, .int)]) 0 0 := by
  refine wk_met0 (fun A => va_Qv (fun u : Nat → Int32 => ∀ k, k < 8 → u k = fa k) (wk_B (dC, dI) vwCl A (fun u : Nat → Int32 => [(h0, .inr (0, [.ref hn, .ref hd, .int wv])), (hn, .inl (dn, 8, .inl u)), (ha, .inl (da, 8, .inl fa))]) (fun _ : Nat → Int32 => [(dn, .int), (da, .int)])) A) (by decide) (Nat.le_of_ble_eq_true rfl) ?_
  intro p e s m below meth c A ls hx hb hr hml hlocks hts hown hnm hsz hP hK hD hS hA hl
  have hl : lv_has ls 2 [(0, .ref h0), (1, .ref ha)] := hl
  have hown : s.vm.findClass RX0 = some m.cls := hown
  have hP : va_P (dC, dI) vwCl [(h0, .inr (0, [.ref hn, .ref hd, .int wv])), (hn, .inl (dn, 8, .inl f)), (ha, .inl (da, 8, .inl fa))] s.heap := hP
  have hD : va_D A [(h0, .inr (0, [.ref hn, .ref hd, .int wv])), (hn, .inl (dn, 8, .inl f)), (ha, .inl (da, 8, .inl fa))] := hD
  refine lv_aload_n hx hb dX0_lay_0 rfl (lv_at hl 0 rfl) ?_
  refine lv_iconst (v := nI 0) hx hb dX0_lay_1 (by decide) ?_
  refine lv_aload_n hx hb dX0_lay_2 rfl (lv_at hl 1 rfl) ?_
  refine lv_iconst (v := nI 0) hx hb dX0_lay_3 (by decide) ?_
  refine wk_iald hx hb hK hP 2 1 rfl rfl (i := 0) (by decide) (by decide) dX0_lay_4 ?_
  refine lv_aload_n hx hb dX0_lay_5 rfl (lv_at hl 1 rfl) ?_
  refine lv_iconst (v := nI 1) hx hb dX0_lay_6 (by decide) ?_
  refine wk_iald hx hb hK hP 2 1 rfl rfl (i := 1) (by decide) (by decide) dX0_lay_7 ?_
  refine lv_aload_n hx hb dX0_lay_8 rfl (lv_at hl 1 rfl) ?_
  refine lv_iconst (v := nI 2) hx hb dX0_lay_9 (by decide) ?_
  refine wk_iald hx hb hK hP 2 1 rfl rfl (i := 2) (by decide) (by decide) dX0_lay_10 ?_
  refine lv_aload_n hx hb dX0_lay_11 rfl (lv_at hl 1 rfl) ?_
  refine lv_iconst (v := nI 3) hx hb dX0_lay_12 (by decide) ?_
  refine wk_iald hx hb hK hP 2 1 rfl rfl (i := 3) (by decide) (by decide) dX0_lay_13 ?_
  refine wk_callv (wr := [(ha, .inl (da, 8, .inl fa))]) (va_runV (As := [.int (nI 0), .int (fa 0), .int (fa 1), .int (fa 2), .int (fa 3)]) (rest := []) ⟨hx, hb, hml, hown, hts⟩ (met_lay0 l dC dI h0 hn hd wv dn f s.heap.size (fa 0) (fa 1) (fa 2) (fa 3)) (cwV 5 hts (lw_V q52 q53 q54 q1 q55) rfl rfl rfl (by decide +kernel) ⟨Nat.le_of_ble_eq_true rfl, Nat.le_of_ble_eq_true rfl⟩) (wk_preV (va_recv hK hP (ci := 0) (q0 := 0) rfl rfl) (hP.sub [0, 1] rfl) (hK.sub [0] rfl) (hD.sub [0, 1] (by decide) rfl)) rfl rfl hl.1 rfl (lv_room (Nat.le_of_ble_eq_true rfl)) dX0_lay_14 ⟨Nat.le_of_ble_eq_true rfl, Nat.le_of_ble_eq_true rfl⟩) hP hD hS hA hK [0, 1] [2] [1] rfl rfl (by decide) (by decide) rfl (fun u_ H locs _ hP hK hD hS => ?_)
  have hP : va_P (dC, dI) vwCl [(ha, .inl (da, 8, .inl fa)), (h0, .inr (0, [.ref hn, .ref hd, .int wv])), (hn, .inl (dn, 8, .inl (upd (upd (upd (upd f 0 (fa 0)) 1 (fa 1)) 2 (fa 2)) 3 (fa 3))))] H := hP
  have hD : va_D A [(ha, .inl (da, 8, .inl fa)), (h0, .inr (0, [.ref hn, .ref hd, .int wv])), (hn, .inl (dn, 8, .inl (upd (upd (upd (upd f 0 (fa 0)) 1 (fa 1)) 2 (fa 2)) 3 (fa 3))))] := hD
  have hK : va_K (dC, dI) vwCl [(da, .int), (dn, .int)] s := hK
  refine lv_aload_n hx hb dX0_lay_17 rfl (lv_at hl 0 rfl) ?_
  refine lv_iconst (v := nI 1) hx hb dX0_lay_18 (by decide) ?_
  refine lv_aload_n hx hb dX0_lay_19 rfl (lv_at hl 1 rfl) ?_
  refine lv_iconst (v := nI 4) hx hb dX0_lay_20 (by decide) ?_
  refine wk_iald hx hb hK hP 0 0 rfl rfl (i := 4) (by decide) (by decide) dX0_lay_21 ?_
  refine lv_aload_n hx hb dX0_lay_22 rfl (lv_at hl 1 rfl) ?_
  refine lv_iconst (v := nI 5) hx hb dX0_lay_23 (by decide) ?_
  refine wk_iald hx hb hK hP 0 0 rfl rfl (i := 5) (by decide) (by decide) dX0_lay_24 ?_
  refine lv_aload_n hx hb dX0_lay_25 rfl (lv_at hl 1 rfl) ?_
  refine lv_bipush (v := nI 6) hx hb dX0_lay_26 (by decide) ?_
  refine wk_iald hx hb hK hP 0 0 rfl rfl (i := 6) (by decide) (by decide) dX0_lay_28 ?_
  refine lv_aload_n hx hb dX0_lay_29 rfl (lv_at hl 1 rfl) ?_
  refine lv_bipush (v := nI 7) hx hb dX0_lay_30 (by decide) ?_
  refine wk_iald hx hb hK hP 0 0 rfl rfl (i := 7) (by decide) (by decide) dX0_lay_32 ?_
  refine wk_callv (wr := [(ha, .inl (da, 8, .inl fa))]) (va_runV (As := [.int (nI 1), .int (fa 4), .int (fa 5), .int (fa 6), .int (fa 7)]) (rest := []) ⟨hx, hb, hml, hown, hts⟩ (met_lay1 l dC dI h0 hn hd wv dn (upd (upd (upd (upd f 0 (fa 0)) 1 (fa 1)) 2 (fa 2)) 3 (fa 3)) H.size (fa 4) (fa 5) (fa 6) (fa 7)) (cwV 5 hts (lw_V q52 q53 q54 q1 q55) rfl rfl rfl (by decide +kernel) ⟨Nat.le_of_ble_eq_true rfl, Nat.le_of_ble_eq_true rfl⟩) (wk_preV (va_recv hK hP (ci := 0) (q0 := 1) rfl rfl) (hP.sub [1, 2] rfl) (hK.sub [1] rfl) (hD.sub [1, 2] (by decide) rfl)) rfl rfl hl.1 rfl (lv_room (Nat.le_of_ble_eq_true rfl)) dX0_lay_33 ⟨Nat.le_of_ble_eq_true rfl, Nat.le_of_ble_eq_true rfl⟩) hP hD hS hA hK [1, 2] [0] [0] rfl rfl (by decide) (by decide) rfl (fun u_ H locs _ hP hK hD hS => ?_)
  have hP : va_P (dC, dI) vwCl [(ha, .inl (da, 8, .inl fa)), (h0, .inr (0, [.ref hn, .ref hd, .int wv])), (hn, .inl (dn, 8, .inl (upd (upd (upd (upd (upd (upd (upd (upd f 0 (fa 0)) 1 (fa 1)) 2 (fa 2)) 3 (fa 3)) 4 (fa 4)) 5 (fa 5)) 6 (fa 6)) 7 (fa 7 &&& 268435455))))] H := hP
  have hD : va_D A [(ha, .inl (da, 8, .inl fa)), (h0, .inr (0, [.ref hn, .ref hd, .int wv])), (hn, .inl (dn, 8, .inl (upd (upd (upd (upd (upd (upd (upd (upd f 0 (fa 0)) 1 (fa 1)) 2 (fa 2)) 3 (fa 3)) 4 (fa 4)) 5 (fa 5)) 6 (fa 6)) 7 (fa 7 &&& 268435455))))] := hD
  have hK : va_K (dC, dI) vwCl [(da, .int), (dn, .int)] s := hK
  exact wk_endv _ hx hb hr hlocks (hP.sub [1, 2, 0] rfl) (hK.sub [1, 0] rfl) (hD.sub [1, 2, 0] (by decide) rfl) hS (wn_layed h7) (Nat.le_of_ble_eq_true rfl) (Nat.le_of_ble_eq_true rfl) dX0_lay_36
set_option maxHeartbeats 4000000 in
set_option maxRecDepth 100000 in
/-- row(d): a new array with the digits -/
theorem met_row (l : Launch) (dC : Nat → ClassId) (dI : Nat → Nat → Nat) (h0 hn hd : Nat) (wv : Int32) (dd : ClassId) (g : Nat → Int32) (sz : Nat) : wk_Mr l yX0_row cX0_row 3 (some (.array .int)) ({ frames := 1, cells := 1, slots := 253, locals := 21 } : Room) [.ref h0] sz (dC, dI) [(h0, .inr (0, [.ref hn, .ref hd, .int wv])), (hd, .inl (dd, 253, .inl g))] [(dd, .byte)] (fun u : ClassId × (Nat → Int32) => ∀ q, q < 253 → u.2 q = g q) (fun (u : ClassId × (Nat → Int32)) (a : Nat) => [(h0, .inr (0, [.ref hn, .ref hd, .int wv])), (hd, .inl (dd, 253, .inl g)), (a, .inl (u.1, 253, .inl u.2))]) (fun u : ClassId × (Nat → Int32) => [(dd, .byte), (u.1, .int)]) 1 253 := by
  refine wk_met0 (fun A => va_Qr (fun u : ClassId × (Nat → Int32) => ∀ q, q < 253 → u.2 q = g q) (wk_R (dC, dI) vwCl A (fun (u : ClassId × (Nat → Int32)) (a : Nat) => [(h0, .inr (0, [.ref hn, .ref hd, .int wv])), (hd, .inl (dd, 253, .inl g)), (a, .inl (u.1, 253, .inl u.2))]) (fun u : ClassId × (Nat → Int32) => [(dd, .byte), (u.1, .int)])) A) (by decide) (Nat.le_of_ble_eq_true rfl) ?_
  intro p e s m below meth c A ls hx hb hr hml hlocks hts hown hnm hsz hP hK hD hS hA hl
  have hl : lv_has ls 3 [(0, .ref h0)] := hl
  have hown : s.vm.findClass RX0 = some m.cls := hown
  have hP : va_P (dC, dI) vwCl [(h0, .inr (0, [.ref hn, .ref hd, .int wv])), (hd, .inl (dd, 253, .inl g))] s.heap := hP
  have hD : va_D A [(h0, .inr (0, [.ref hn, .ref hd, .int wv])), (hd, .inl (dd, 253, .inl g))] := hD
  refine wk_setQ (fun Q hQ => ?_)
  refine lv_sipush (v := nI 253) hx hb dX0_row_0 (by decide) ?_
  refine wk_newI hx hb (hts _ q21) hK hP hD hS hA (n := 253) (by decide) (Nat.le_of_ble_eq_true rfl) (Nat.le_of_ble_eq_true rfl) (Nat.le_of_ble_eq_true rfl) dX0_row_3 (fun hw dw H hK hP hD hS => ?_)
  have hK : va_K (dC, dI) vwCl [(dd, .byte), (dw, .int)] s := hK
  have hP : va_P (dC, dI) vwCl [(h0, .inr (0, [.ref hn, .ref hd, .int wv])), (hd, .inl (dd, 253, .inl g)), (hw, .inl (dw, 253, .inl (fun _ => 0)))] H := hP
  have hD : va_D A [(h0, .inr (0, [.ref hn, .ref hd, .int wv])), (hd, .inl (dd, 253, .inl g)), (hw, .inl (dw, 253, .inl (fun _ => 0)))] := hD
  refine W.widen (k := 1) (n := 253) (by decide) (by decide) ?_
  refine lv_astore_n (lv' := [(1, .ref hw), (0, .ref h0)]) hx hb dX0_row_5 rfl hl (by decide) rfl (fun ls hl => ?_)
  refine lv_iconst (v := nI 0) hx hb dX0_row_6 (by decide) ?_
  refine lv_istore_n (lv' := [(2, .int (nI 0)), (1, .ref hw), (0, .ref h0)]) hx hb dX0_row_7 rfl hl (by decide) rfl (fun ls hl => ?_)
  have loop : ∀ (n i : Nat) (v : Nat → Int32) (H : Heap) (locs : List Loc) (ls : Array Slot), n + i = 253 → (∀ q, q < i → v q = g q) → va_P (dC, dI) vwCl [(h0, .inr (0, [.ref hn, .ref hd, .int wv])), (hd, .inl (dd, 253, .inl g)), (hw, .inl (dw, 253, .inl v))] H → va_D A [(h0, .inr (0, [.ref hn, .ref hd, .int wv])), (hd, .inl (dd, 253, .inl g)), (hw, .inl (dw, 253, .inl v))] → va_S A s.heap H locs → lv_has ls 3 [(0, .ref h0), (1, .ref hw), (2, .int (nI i))] → W p l e ({ frames := 1, cells := 1, slots := 253, locals := 21 } : Room) s m ([.ref h0] : List Value).toArray below meth c H locs 1 253 Q (F0 m 8 ls []) := by
    intro n
    induction n with
    | zero =>
      intro i v H locs ls hi hv hP hD hS hl
      have hi : i = 253 := by omega
      subst hi
      refine lv_iload_n hx hb dX0_row_8 rfl (lv_at hl 2 rfl) ?_
      refine lv_sipush (v := nI 253) hx hb dX0_row_9 (by decide) ?_
      refine lv_icmp_ge (tgt := 29) hx hb dX0_row_12 (by decide) (fun _ => ?_) (fun c_ => absurd (Int32.le_refl _) c_)
      refine lv_aload_n hx hb dX0_row_29 rfl (lv_at hl 1 rfl) ?_
      subst hQ
      exact wk_endr (dw, v) hx hb hr hlocks hP hK hD hS hv (Nat.le_of_ble_eq_true rfl) (Nat.le_of_ble_eq_true rfl) dX0_row_30
    | succ n ih =>
      intro i v H locs ls hi hv hP hD hS hl
      have hi8 : i < 253 := by omega
      refine lv_iload_n hx hb dX0_row_8 rfl (lv_at hl 2 rfl) ?_
      refine lv_sipush (v := nI 253) hx hb dX0_row_9 (by decide) ?_
      refine lv_icmp_ge (tgt := 29) hx hb dX0_row_12 (by decide) (fun c_ => absurd c_ (nI_ge hi8 (by decide))) (fun _ => ?_)
      refine lv_aload_n hx hb dX0_row_15 rfl (lv_at hl 1 rfl) ?_
      refine lv_iload_n hx hb dX0_row_16 rfl (lv_at hl 2 rfl) ?_
      refine lv_aload_n hx hb dX0_row_17 rfl (lv_at hl 0 rfl) ?_
      refine lv_iload_n hx hb dX0_row_18 rfl (lv_at hl 2 rfl) ?_
      refine vp_callSi (va_runV (As := [.int (nI i)]) (rest := [.int (nI i), .ref hw]) ⟨hx, hb, hml, hown, hts⟩ (met_digit l dC dI h0 hn hd wv dd g (nI i)) (cwV 1 hts (lw_V q23 q24 q25 q1 q26) rfl rfl rfl (by decide +kernel) ⟨Nat.le_of_ble_eq_true rfl, Nat.le_of_ble_eq_true rfl⟩) (wk_preVp (va_recv hK hP (ci := 0) (q0 := 0) rfl rfl) (hP.sub [0, 1] rfl) (hK.sub [0] rfl)) rfl rfl hl.1 rfl (lv_room (Nat.le_of_ble_eq_true rfl)) dX0_row_19 ⟨Nat.le_of_ble_eq_true rfl, Nat.le_of_ble_eq_true rfl⟩).run (fun r_ hr_ => ?_)
      rw [wn_ix i hi8] at hr_
      refine wk_iast hx hb hK hP hD hS 2 1 rfl rfl (i := i) (hi8) (by decide) dX0_row_22 (fun H locs hP hD hS => ?_)
      have hP : va_P (dC, dI) vwCl [(h0, .inr (0, [.ref hn, .ref hd, .int wv])), (hd, .inl (dd, 253, .inl g)), (hw, .inl (dw, 253, .inl (upd v i r_)))] H := hP
      have hD : va_D A [(h0, .inr (0, [.ref hn, .ref hd, .int wv])), (hd, .inl (dd, 253, .inl g)), (hw, .inl (dw, 253, .inl (upd v i r_)))] := hD
      refine lv_iinc (v := nI (i + 1)) (lv' := [(2, .int (nI (i + 1))), (0, .ref h0), (1, .ref hw)]) hx hb dX0_row_23 hl (k := 2) rfl (nI_1 i) (by decide) rfl (fun ls hl => ?_)
      refine lv_goto (tgt := 8) hx hb dX0_row_26 (by decide) ?_
      have hl : lv_has ls 3 [(0, .ref h0), (1, .ref hw), (2, .int (nI (i + 1)))] := lv_sub hl [1, 2, 0] rfl
      exact ih (i + 1) _ H locs ls (by omega) (wn_upd_s (P := fun q x => x = g q) hv hr_) hP hD hS hl
  have hl : lv_has ls 3 [(0, .ref h0), (1, .ref hw), (2, .int (nI 0))] := lv_sub hl [2, 1, 0] rfl
  exact loop 253 0 _ H _ ls (by decide) (fun q h => absurd h (Nat.not_lt_zero q)) hP hD hS hl
end
section
/-! found, and what the law asks of the digits -/
theorem wn_tadd {x y : Int32} {a b : Int} (hx : x.toInt = a) (hy : y.toInt = b) (h1 : -1000 ≤ a + b) (h2 : a + b ≤ 1000) : (x + y).toInt = a + b := by
  rw [Int32.toInt_add, hx, hy]
  exact Int.bmod_eq_of_le (by omega) (by omega)
theorem wn_tsub {x y : Int32} {a b : Int} (hx : x.toInt = a) (hy : y.toInt = b) (h1 : -1000 ≤ a - b) (h2 : a - b ≤ 1000) : (x - y).toInt = a - b := by
  rw [Int32.toInt_sub, hx, hy]
  exact Int.bmod_eq_of_le (by omega) (by omega)
theorem wn_low1 {x : Int32} : x &&& nI 1 = nI (wn_u x % 2) := pk_and x (m := nI 1) 1 (by decide)
theorem wn_even32 {x : Int32} {a : Int} (h : x.toInt = 2 * a) : x &&& nI 1 = 0 := by
  have e : wn_u x % 2 = 0 := by
    have h2 := wn_toInt_u x
    split at h2 <;> omega
  rw [wn_low1, e]
  rfl
theorem wn_odd32 {x : Int32} (h : x.toInt % 2 = 1) : ¬ x &&& nI 1 = 0 := by
  have e : wn_u x % 2 = 1 := by
    have h2 := wn_toInt_u x
    split at h2 <;> omega
  rw [wn_low1, e]
  decide
theorem wn_half32 {x : Int32} {a : Int} (h : x.toInt = 2 * a) (h1 : -1000 ≤ a) (h2 : a ≤ 1000) : (x / nI 2).toInt = a := by
  rw [Int32.toInt_div, h, show (nI 2).toInt = 2 from by decide, Int.mul_tdiv_cancel_left a (by decide)]
  exact Int.bmod_eq_of_le (by omega) (by omega)
theorem wn_one_shl {w : Nat} (hok : wn_ok w) : nI 1 <<< (nI (w - 1) &&& 31) = nI (2 ^ (w - 1)) := by
  rcases hok with rfl | rfl | rfl | rfl <;> decide
theorem wn_most {w : Nat} (hok : wn_ok w) : (nI (2 ^ (w - 1) - 1)).toInt = 2 ^ (w - 1) - 1 ∧ (-(nI (2 ^ (w - 1) - 1))).toInt = -(2 ^ (w - 1) - 1) ∧ (-(nI w)).toInt = -(w : Int) ∧ (nI w).toInt = (w : Int) := by
  rcases hok with rfl | rfl | rfl | rfl <;> decide
theorem wn_dg_ne {w : Nat} (hok : wn_ok w) {n : Int} {i : Nat} (h : ¬ wn_dg w n i = 0) : wn_dg w n i % 2 = 1 ∧ -(2 ^ (w - 1)) < wn_dg w n i ∧ wn_dg w n i < 2 ^ (w - 1) := by
  rcases wn_dg_cases hok n i with ⟨-, e⟩ | ⟨-, e⟩
  · exact absurd e h
  · exact e
set_option maxHeartbeats 4000000 in
set_option maxRecDepth 100000 in
/-- found(d, n, x): a new array with the digits of n at width 3 + (x & 3); the desk has n, the digits and the width -/
theorem met_found (l : Launch) (dC : Nat → ClassId) (dI : Nat → Nat → Nat) (h0 hn hd ha : Nat) (wv : Int32) (dn da : ClassId) (f fa : Nat → Int32) (sz : Nat) (x : Int32) (N : Nat) (hfa : wn_is fa N) : wk_Mr l yX0_found cX0_found 3 (some (.array .int)) ({ frames := 2, cells := 3, slots := 522, locals := 53 } : Room) [.ref h0, .ref ha, .int x] sz (dC, dI) [(h0, .inr (0, [.ref hn, .ref hd, .int wv])), (hn, .inl (dn, 8, .inl f)), (ha, .inl (da, 8, .inl fa))] [(dn, .int), (da, .int)] (fun u : Nat × ClassId × (Nat → Int32) × (Nat → Int32) × ClassId × (Nat → Int32) => (∀ k, k < 8 → u.2.2.2.1 k = fa k) ∧ (∀ q, q < 253 → (u.2.2.1 q).toInt = wn_dg (3 + wn_u x % 4) (N : Int) q) ∧ (∀ q, q < 253 → (u.2.2.2.2.2 q).toInt = wn_dg (3 + wn_u x % 4) (N : Int) q)) (fun (u : Nat × ClassId × (Nat → Int32) × (Nat → Int32) × ClassId × (Nat → Int32)) (a : Nat) => [(h0, .inr (0, [.ref hn, .ref u.1, .int (nI (3 + wn_u x % 4))])), (hn, .inl (dn, 8, .inl u.2.2.2.1)), (ha, .inl (da, 8, .inl fa)), (u.1, .inl (u.2.1, 253, .inl u.2.2.1)), (a, .inl (u.2.2.2.2.1, 253, .inl u.2.2.2.2.2))]) (fun u : Nat × ClassId × (Nat → Int32) × (Nat → Int32) × ClassId × (Nat → Int32) => [(dn, .int), (da, .int), (u.2.1, .byte), (u.2.2.2.2.1, .int)]) 3 522 := by
  refine wk_met0 (fun A => va_Qr (fun u : Nat × ClassId × (Nat → Int32) × (Nat → Int32) × ClassId × (Nat → Int32) => (∀ k, k < 8 → u.2.2.2.1 k = fa k) ∧ (∀ q, q < 253 → (u.2.2.1 q).toInt = wn_dg (3 + wn_u x % 4) (N : Int) q) ∧ (∀ q, q < 253 → (u.2.2.2.2.2 q).toInt = wn_dg (3 + wn_u x % 4) (N : Int) q)) (wk_R (dC, dI) vwCl A (fun (u : Nat × ClassId × (Nat → Int32) × (Nat → Int32) × ClassId × (Nat → Int32)) (a : Nat) => [(h0, .inr (0, [.ref hn, .ref u.1, .int (nI (3 + wn_u x % 4))])), (hn, .inl (dn, 8, .inl u.2.2.2.1)), (ha, .inl (da, 8, .inl fa)), (u.1, .inl (u.2.1, 253, .inl u.2.2.1)), (a, .inl (u.2.2.2.2.1, 253, .inl u.2.2.2.2.2))]) (fun u : Nat × ClassId × (Nat → Int32) × (Nat → Int32) × ClassId × (Nat → Int32) => [(dn, .int), (da, .int), (u.2.1, .byte), (u.2.2.2.2.1, .int)])) A) (by decide) (Nat.le_of_ble_eq_true rfl) ?_
  intro p e s m below meth c A ls hx hb hr hml hlocks hts hown hnm hsz hP hK hD hS hA hl
  have hl : lv_has ls 3 [(0, .ref h0), (1, .ref ha), (2, .int x)] := hl
  have hown : s.vm.findClass RX0 = some m.cls := hown
  have hP : va_P (dC, dI) vwCl [(h0, .inr (0, [.ref hn, .ref hd, .int wv])), (hn, .inl (dn, 8, .inl f)), (ha, .inl (da, 8, .inl fa))] s.heap := hP
  have hD : va_D A [(h0, .inr (0, [.ref hn, .ref hd, .int wv])), (hn, .inl (dn, 8, .inl f)), (ha, .inl (da, 8, .inl fa))] := hD
  refine lv_aload_n hx hb dX0_found_0 rfl (lv_at hl 0 rfl) ?_
  refine lv_aload_n hx hb dX0_found_1 rfl (lv_at hl 1 rfl) ?_
  refine wk_callv (wr := []) (va_runS (As := [.ref h0, .ref ha]) (rest := []) ⟨hx, hb, hml, hown, hts⟩ (met_slay l dC dI h0 hn hd ha wv dn da f fa s.heap.size (wn_is_top hfa)) (va_cwS 2 hts (lw_S q49 q50 q0 q51) rfl rfl rfl (by decide +kernel) ⟨Nat.le_of_ble_eq_true rfl, Nat.le_of_ble_eq_true rfl⟩) (wk_preS (hP.sub [0, 1, 2] rfl) (hK.sub [0, 1] rfl) (hD.sub [0, 1, 2] (by decide) rfl)) rfl rfl hl.1 rfl (lv_room (Nat.le_of_ble_eq_true rfl)) dX0_found_2 ⟨Nat.le_of_ble_eq_true rfl, Nat.le_of_ble_eq_true rfl⟩) hP hD hS hA hK [0, 1, 2] [] [] rfl rfl (by decide) (by decide) rfl (fun f1 H locs h1 hP hK hD hS => ?_)
  have hP : va_P (dC, dI) vwCl [(h0, .inr (0, [.ref hn, .ref hd, .int wv])), (hn, .inl (dn, 8, .inl f1)), (ha, .inl (da, 8, .inl fa))] H := hP
  have hD : va_D A [(h0, .inr (0, [.ref hn, .ref hd, .int wv])), (hn, .inl (dn, 8, .inl f1)), (ha, .inl (da, 8, .inl fa))] := hD
  have hK : va_K (dC, dI) vwCl [(dn, .int), (da, .int)] s := hK
  refine lv_aload_n hx hb dX0_found_5 rfl (lv_at hl 0 rfl) ?_
  refine lv_iload_n hx hb dX0_found_6 rfl (lv_at hl 2 rfl) ?_
  refine wk_callv (wr := [(ha, .inl (da, 8, .inl fa))]) (va_runV (As := [.int x]) (rest := []) ⟨hx, hb, hml, hown, hts⟩ (met_find l dC dI h0 hn hd wv dn f1 H.size x N (wn_is_congr hfa h1)) (cwV 1 hts (lw_V q57 q58 q59 q1 q60) rfl rfl rfl (by decide +kernel) ⟨Nat.le_of_ble_eq_true rfl, Nat.le_of_ble_eq_true rfl⟩) (wk_preV (va_recv hK hP (ci := 0) (q0 := 0) rfl rfl) (hP.sub [0, 1] rfl) (hK.sub [0] rfl) (hD.sub [0, 1] (by decide) rfl)) rfl rfl hl.1 rfl (lv_room (Nat.le_of_ble_eq_true rfl)) dX0_found_7 ⟨Nat.le_of_ble_eq_true rfl, Nat.le_of_ble_eq_true rfl⟩) hP hD hS hA hK [0, 1] [2] [1] rfl rfl (by decide) (by decide) rfl (fun u_ H locs h2 hP hK hD hS => ?_)
  obtain ⟨hq, dq, g⟩ := u_
  have hP : va_P (dC, dI) vwCl [(ha, .inl (da, 8, .inl fa)), (h0, .inr (0, [.ref hn, .ref hq, .int (nI (3 + wn_u x % 4))])), (hn, .inl (dn, 8, .inl f1)), (hq, .inl (dq, 253, .inl g))] H := hP
  have hD : va_D A [(ha, .inl (da, 8, .inl fa)), (h0, .inr (0, [.ref hn, .ref hq, .int (nI (3 + wn_u x % 4))])), (hn, .inl (dn, 8, .inl f1)), (hq, .inl (dq, 253, .inl g))] := hD
  have hK : va_K (dC, dI) vwCl [(da, .int), (dn, .int), (dq, .byte)] s := hK
  refine lv_aload_n hx hb dX0_found_10 rfl (lv_at hl 0 rfl) ?_
  refine wk_callr (wr := [(ha, .inl (da, 8, .inl fa)), (hn, .inl (dn, 8, .inl f1))]) (va_runS (As := [.ref h0]) (rest := []) ⟨hx, hb, hml, hown, hts⟩ (met_row l dC dI h0 hn hq (nI (3 + wn_u x % 4)) dq g H.size) (va_cwS 1 hts (lw_S q43 q44 q0 q45) rfl rfl rfl (by decide +kernel) ⟨Nat.le_of_ble_eq_true rfl, Nat.le_of_ble_eq_true rfl⟩) (wk_preS (hP.sub [1, 3] rfl) (hK.sub [2] rfl) (hD.sub [1, 3] (by decide) rfl)) rfl rfl hl.1 rfl (lv_room (Nat.le_of_ble_eq_true rfl)) dX0_found_11 ⟨Nat.le_of_ble_eq_true rfl, Nat.le_of_ble_eq_true rfl⟩) hP hD hS hA hK [1, 3] [0, 2] [0, 1] rfl rfl (by decide) (by decide) rfl (fun u_ ra H locs h3 hP hK hD hS => ?_)
  obtain ⟨dr, fr⟩ := u_
  have hP : va_P (dC, dI) vwCl [(ha, .inl (da, 8, .inl fa)), (hn, .inl (dn, 8, .inl f1)), (h0, .inr (0, [.ref hn, .ref hq, .int (nI (3 + wn_u x % 4))])), (hq, .inl (dq, 253, .inl g)), (ra, .inl (dr, 253, .inl fr))] H := hP
  have hD : va_D A [(ha, .inl (da, 8, .inl fa)), (hn, .inl (dn, 8, .inl f1)), (h0, .inr (0, [.ref hn, .ref hq, .int (nI (3 + wn_u x % 4))])), (hq, .inl (dq, 253, .inl g)), (ra, .inl (dr, 253, .inl fr))] := hD
  have hK : va_K (dC, dI) vwCl [(da, .int), (dn, .int), (dq, .byte), (dr, .int)] s := hK
  exact wk_endr (hq, dq, g, f1, dr, fr) hx hb hr hlocks (hP.sub [2, 1, 0, 3, 4] rfl) (hK.sub [1, 0, 2, 3] rfl) (hD.sub [2, 1, 0, 3, 4] (by decide) rfl) hS ⟨h1, h2, fun q hq9 => by rw [h3 q hq9]; exact h2 q hq9⟩ (Nat.le_of_ble_eq_true rfl) (Nat.le_of_ble_eq_true rfl) dX0_found_14
set_option maxHeartbeats 4000000 in
set_option maxRecDepth 100000 in
/-- same(a, b), where they are -/
theorem met_same (l : Launch) (dC : Nat → ClassId) (dI : Nat → Nat → Nat) (hu hv : Nat) (du dv : ClassId) (fu fv : Nat → Int32) (heq : ∀ q, q < 253 → fu q = fv q) : wk_Mp l yX0_same cX0_same 4 (some .boolean) ({ frames := 0, cells := 0, slots := 0, locals := 0 } : Room) [.ref hu, .ref hv] (dC, dI) [(hu, .inl (du, 253, .inl fu)), (hv, .inl (dv, 253, .inl fv))] [(du, .int), (dv, .int)] (fun r => r = nI 1) := by
  refine wk_mp (by decide) (Nat.le_of_ble_eq_true rfl) ?_
  intro p e s m below meth c ls hx hb hr hml hlocks hts hown hP hK hl
  have hl : lv_has ls 4 [(0, .ref hu), (1, .ref hv)] := hl
  have hown : s.vm.findClass RX0 = some m.cls := hown
  refine wk_setQ (fun Q hQ => ?_)
  refine lv_iconst (v := nI 1) hx hb dX0_same_0 (by decide) ?_
  refine lv_istore_n (lv' := [(2, .int (nI 1)), (0, .ref hu), (1, .ref hv)]) hx hb dX0_same_1 rfl hl (by decide) rfl (fun ls hl => ?_)
  refine lv_iconst (v := nI 0) hx hb dX0_same_2 (by decide) ?_
  refine lv_istore_n (lv' := [(3, .int (nI 0)), (2, .int (nI 1)), (0, .ref hu), (1, .ref hv)]) hx hb dX0_same_3 rfl hl (by decide) rfl (fun ls hl => ?_)
  have loop : ∀ (n i : Nat) (ls : Array Slot), n + i = 253 → lv_has ls 4 [(0, .ref hu), (1, .ref hv), (2, .int (nI 1)), (3, .int (nI i))] → W p l e ({ frames := 0, cells := 0, slots := 0, locals := 0 } : Room) s m ([.ref hu, .ref hv] : List Value).toArray below meth c s.heap [] 0 0 Q (F0 m 4 ls []) := by
    intro n
    induction n with
    | zero =>
      intro i ls hi hl
      have hi : i = 253 := by omega
      subst hi
      refine lv_iload_n hx hb dX0_same_4 rfl (lv_at hl 3 rfl) ?_
      refine lv_aload_n hx hb dX0_same_5 rfl (lv_at hl 0 rfl) ?_
      refine va_alen (v := nI 253) hx hb hK hP 0 0 rfl rfl rfl dX0_same_6 ?_
      refine lv_icmp_ge (tgt := 35) hx hb dX0_same_7 (by decide) (fun _ => ?_) (fun c_ => absurd (Int32.le_refl _) c_)
      refine lv_iload_n hx hb dX0_same_35 rfl (lv_at hl 2 rfl) ?_
      subst hQ
      exact wk_endp hx hb hr rfl hlocks rfl dX0_same_36
    | succ n ih =>
      intro i ls hi hl
      have hi8 : i < 253 := by omega
      refine lv_iload_n hx hb dX0_same_4 rfl (lv_at hl 3 rfl) ?_
      refine lv_aload_n hx hb dX0_same_5 rfl (lv_at hl 0 rfl) ?_
      refine va_alen (v := nI 253) hx hb hK hP 0 0 rfl rfl rfl dX0_same_6 ?_
      refine lv_icmp_ge (tgt := 35) hx hb dX0_same_7 (by decide) (fun c_ => absurd c_ (nI_ge hi8 (by decide))) (fun _ => ?_)
      refine lv_iload_n hx hb dX0_same_10 rfl (lv_at hl 2 rfl) ?_
      refine lv_if_eq (tgt := 35) hx hb dX0_same_11 (by decide) (fun c_ => absurd c_ (by decide)) (fun _ => ?_)
      refine lv_aload_n hx hb dX0_same_14 rfl (lv_at hl 0 rfl) ?_
      refine lv_iload_n hx hb dX0_same_15 rfl (lv_at hl 3 rfl) ?_
      refine wk_iald hx hb hK hP 0 0 rfl rfl (i := i) (hi8) (by decide) dX0_same_16 ?_
      refine lv_aload_n hx hb dX0_same_17 rfl (lv_at hl 1 rfl) ?_
      refine lv_iload_n hx hb dX0_same_18 rfl (lv_at hl 3 rfl) ?_
      refine wk_iald hx hb hK hP 1 1 rfl rfl (i := i) (hi8) (by decide) dX0_same_19 ?_
      refine lv_icmp_ne (tgt := 27) hx hb dX0_same_20 (by decide) (fun c_ => absurd (heq i hi8) c_) (fun _ => ?_)
      refine lv_iconst (v := nI 1) hx hb dX0_same_23 (by decide) ?_
      refine lv_goto (tgt := 28) hx hb dX0_same_24 (by decide) ?_
      refine lv_istore_n (lv' := [(2, .int (nI 1)), (0, .ref hu), (1, .ref hv), (3, .int (nI i))]) hx hb dX0_same_28 rfl hl (by decide) rfl (fun ls hl => ?_)
      refine lv_iinc (v := nI (i + 1)) (lv' := [(3, .int (nI (i + 1))), (2, .int (nI 1)), (0, .ref hu), (1, .ref hv)]) hx hb dX0_same_29 hl (k := 3) rfl (nI_1 i) (by decide) rfl (fun ls hl => ?_)
      refine lv_goto (tgt := 4) hx hb dX0_same_32 (by decide) ?_
      have hl : lv_has ls 4 [(0, .ref hu), (1, .ref hv), (2, .int (nI 1)), (3, .int (nI (i + 1)))] := lv_sub hl [2, 3, 1, 0] rfl
      exact ih (i + 1) ls (by omega) hl
  have hl : lv_has ls 4 [(0, .ref hu), (1, .ref hv), (2, .int (nI 1)), (3, .int (nI 0))] := lv_sub hl [2, 3, 1, 0] rfl
  exact loop 253 0 ls (by decide) hl
set_option maxHeartbeats 4000000 in
set_option maxRecDepth 100000 in
/-- many(r): how many are not 0 -/
theorem met_many (l : Launch) (dC : Nat → ClassId) (dI : Nat → Nat → Nat) (hu : Nat) (du : ClassId) (fu : Nat → Int32) : wk_Mp l yX0_many cX0_many 6 (some .int) ({ frames := 0, cells := 0, slots := 0, locals := 0 } : Room) [.ref hu] (dC, dI) [(hu, .inl (du, 253, .inl fu))] [(du, .int)] (fun r => r = nI (wn_cn fu 253)) := by
  refine wk_mp (by decide) (Nat.le_of_ble_eq_true rfl) ?_
  intro p e s m below meth c ls hx hb hr hml hlocks hts hown hP hK hl
  have hl : lv_has ls 6 [(0, .ref hu)] := hl
  have hown : s.vm.findClass RX0 = some m.cls := hown
  refine wk_setQ (fun Q hQ => ?_)
  refine lv_iconst (v := nI 0) hx hb dX0_many_0 (by decide) ?_
  refine lv_istore_n (lv' := [(1, .int (nI 0)), (0, .ref hu)]) hx hb dX0_many_1 rfl hl (by decide) rfl (fun ls hl => ?_)
  refine lv_aload_n hx hb dX0_many_2 rfl (lv_at hl 1 rfl) ?_
  refine lv_astore_n (lv' := [(2, .ref hu), (1, .int (nI 0)), (0, .ref hu)]) hx hb dX0_many_3 rfl hl (by decide) rfl (fun ls hl => ?_)
  refine lv_aload_n hx hb dX0_many_4 rfl (lv_at hl 0 rfl) ?_
  refine va_alen (v := nI 253) hx hb hK hP 0 0 rfl rfl rfl dX0_many_5 ?_
  refine lv_istore_n (lv' := [(3, .int (nI 253)), (2, .ref hu), (1, .int (nI 0)), (0, .ref hu)]) hx hb dX0_many_6 rfl hl (by decide) rfl (fun ls hl => ?_)
  refine lv_iconst (v := nI 0) hx hb dX0_many_7 (by decide) ?_
  refine lv_istore (lv' := [(4, .int (nI 0)), (3, .int (nI 253)), (2, .ref hu), (1, .int (nI 0)), (0, .ref hu)]) hx hb dX0_many_8 hl (by decide) rfl (fun ls hl => ?_)
  have loop : ∀ (n i : Nat) (ls : Array Slot), n + i = 253 → lv_has ls 6 [(0, .ref hu), (1, .int (nI (wn_cn fu i))), (2, .ref hu), (3, .int (nI 253)), (4, .int (nI i))] → W p l e ({ frames := 0, cells := 0, slots := 0, locals := 0 } : Room) s m ([.ref hu] : List Value).toArray below meth c s.heap [] 0 0 Q (F0 m 10 ls []) := by
    intro n
    induction n with
    | zero =>
      intro i ls hi hl
      have hi : i = 253 := by omega
      subst hi
      refine lv_iload hx hb dX0_many_10 (lv_at hl 4 rfl) ?_
      refine lv_iload_n hx hb dX0_many_12 rfl (lv_at hl 3 rfl) ?_
      refine lv_icmp_ge (tgt := 41) hx hb dX0_many_13 (by decide) (fun _ => ?_) (fun c_ => absurd (Int32.le_refl _) c_)
      refine lv_iload_n hx hb dX0_many_41 rfl (lv_at hl 1 rfl) ?_
      subst hQ
      exact wk_endp hx hb hr rfl hlocks rfl dX0_many_42
    | succ n ih =>
      intro i ls hi hl
      have hi8 : i < 253 := by omega
      refine lv_iload hx hb dX0_many_10 (lv_at hl 4 rfl) ?_
      refine lv_iload_n hx hb dX0_many_12 rfl (lv_at hl 3 rfl) ?_
      refine lv_icmp_ge (tgt := 41) hx hb dX0_many_13 (by decide) (fun c_ => absurd c_ (nI_ge hi8 (by decide))) (fun _ => ?_)
      refine lv_aload_n hx hb dX0_many_16 rfl (lv_at hl 2 rfl) ?_
      refine lv_iload hx hb dX0_many_17 (lv_at hl 4 rfl) ?_
      refine wk_iald hx hb hK hP 0 0 rfl rfl (i := i) (hi8) (by decide) dX0_many_19 ?_
      refine lv_istore (lv' := [(5, .int (fu i)), (0, .ref hu), (1, .int (nI (wn_cn fu i))), (2, .ref hu), (3, .int (nI 253)), (4, .int (nI i))]) hx hb dX0_many_20 hl (by decide) rfl (fun ls hl => ?_)
      refine lv_iload_n hx hb dX0_many_22 rfl (lv_at hl 2 rfl) ?_
      refine lv_iload hx hb dX0_many_23 (lv_at hl 0 rfl) ?_
      refine lv_if_eq (tgt := 32) hx hb dX0_many_25 (by decide) (fun c_1 => ?_) (fun c_1 => ?_)
      · refine lv_iconst (v := nI 0) hx hb dX0_many_32 (by decide) ?_
        refine lv_iadd hx hb dX0_many_33 ?_
        refine wk_top (y := nI (wn_cn fu (i + 1))) (wn_cn_s fu i 0 (by rw [if_pos c_1])) ?_
        refine lv_istore_n (lv' := [(1, .int (nI (wn_cn fu (i + 1)))), (5, .int (fu i)), (0, .ref hu), (2, .ref hu), (3, .int (nI 253)), (4, .int (nI i))]) hx hb dX0_many_34 rfl hl (by decide) rfl (fun ls hl => ?_)
        refine lv_iinc (v := nI (i + 1)) (lv' := [(4, .int (nI (i + 1))), (1, .int (nI (wn_cn fu (i + 1)))), (5, .int (fu i)), (0, .ref hu), (2, .ref hu), (3, .int (nI 253))]) hx hb dX0_many_35 hl (k := 5) rfl (nI_1 i) (by decide) rfl (fun ls hl => ?_)
        refine lv_goto (tgt := 10) hx hb dX0_many_38 (by decide) ?_
        have hl : lv_has ls 6 [(0, .ref hu), (1, .int (nI (wn_cn fu (i + 1)))), (2, .ref hu), (3, .int (nI 253)), (4, .int (nI (i + 1)))] := lv_sub hl [3, 1, 4, 5, 0] rfl
        exact ih (i + 1) ls (by omega) hl
      · refine lv_iconst (v := nI 1) hx hb dX0_many_28 (by decide) ?_
        refine lv_goto (tgt := 33) hx hb dX0_many_29 (by decide) ?_
        refine lv_iadd hx hb dX0_many_33 ?_
        refine wk_top (y := nI (wn_cn fu (i + 1))) (wn_cn_s fu i 1 (by rw [if_neg c_1])) ?_
        refine lv_istore_n (lv' := [(1, .int (nI (wn_cn fu (i + 1)))), (5, .int (fu i)), (0, .ref hu), (2, .ref hu), (3, .int (nI 253)), (4, .int (nI i))]) hx hb dX0_many_34 rfl hl (by decide) rfl (fun ls hl => ?_)
        refine lv_iinc (v := nI (i + 1)) (lv' := [(4, .int (nI (i + 1))), (1, .int (nI (wn_cn fu (i + 1)))), (5, .int (fu i)), (0, .ref hu), (2, .ref hu), (3, .int (nI 253))]) hx hb dX0_many_35 hl (k := 5) rfl (nI_1 i) (by decide) rfl (fun ls hl => ?_)
        refine lv_goto (tgt := 10) hx hb dX0_many_38 (by decide) ?_
        have hl : lv_has ls 6 [(0, .ref hu), (1, .int (nI (wn_cn fu (i + 1)))), (2, .ref hu), (3, .int (nI 253)), (4, .int (nI (i + 1)))] := lv_sub hl [3, 1, 4, 5, 0] rfl
        exact ih (i + 1) ls (by omega) hl
  have hl : lv_has ls 6 [(0, .ref hu), (1, .int (nI 0)), (2, .ref hu), (3, .int (nI 253)), (4, .int (nI 0))] := lv_sub hl [4, 3, 2, 1, 0] rfl
  exact loop 253 0 ls (by decide) hl
set_option maxHeartbeats 4000000 in
set_option maxRecDepth 100000 in
/-- ones(n): how many places are 1 -/
theorem met_ones (l : Launch) (dC : Nat → ClassId) (dI : Nat → Nat → Nat) (hu : Nat) (du : ClassId) (fu : Nat → Int32) (N : Nat) (hf : wn_is fu N) : wk_Mp l yX0_ones cX0_ones 3 (some .int) ({ frames := 1, cells := 0, slots := 0, locals := 21 } : Room) [.ref hu] (dC, dI) [(hu, .inl (du, 8, .inl fu))] [(du, .int)] (fun r => r = nI (wn_bs N 252)) := by
  refine wk_mp (by decide) (Nat.le_of_ble_eq_true rfl) ?_
  intro p e s m below meth c ls hx hb hr hml hlocks hts hown hP hK hl
  have hl : lv_has ls 3 [(0, .ref hu)] := hl
  have hown : s.vm.findClass RX0 = some m.cls := hown
  refine wk_setQ (fun Q hQ => ?_)
  refine lv_iconst (v := nI 0) hx hb dX0_ones_0 (by decide) ?_
  refine lv_istore_n (lv' := [(1, .int (nI 0)), (0, .ref hu)]) hx hb dX0_ones_1 rfl hl (by decide) rfl (fun ls hl => ?_)
  refine lv_iconst (v := nI 0) hx hb dX0_ones_2 (by decide) ?_
  refine lv_istore_n (lv' := [(2, .int (nI 0)), (1, .int (nI 0)), (0, .ref hu)]) hx hb dX0_ones_3 rfl hl (by decide) rfl (fun ls hl => ?_)
  have loop : ∀ (n i : Nat) (ls : Array Slot), n + i = 252 → lv_has ls 3 [(0, .ref hu), (1, .int (nI (wn_bs N i))), (2, .int (nI i))] → W p l e ({ frames := 1, cells := 0, slots := 0, locals := 21 } : Room) s m ([.ref hu] : List Value).toArray below meth c s.heap [] 0 0 Q (F0 m 4 ls []) := by
    intro n
    induction n with
    | zero =>
      intro i ls hi hl
      have hi : i = 252 := by omega
      subst hi
      refine lv_iload_n hx hb dX0_ones_4 rfl (lv_at hl 2 rfl) ?_
      refine lv_sipush (v := nI 252) hx hb dX0_ones_5 (by decide) ?_
      refine lv_icmp_ge (tgt := 25) hx hb dX0_ones_8 (by decide) (fun _ => ?_) (fun c_ => absurd (Int32.le_refl _) c_)
      refine lv_iload_n hx hb dX0_ones_25 rfl (lv_at hl 1 rfl) ?_
      subst hQ
      exact wk_endp hx hb hr rfl hlocks rfl dX0_ones_26
    | succ n ih =>
      intro i ls hi hl
      have hi8 : i < 252 := by omega
      refine lv_iload_n hx hb dX0_ones_4 rfl (lv_at hl 2 rfl) ?_
      refine lv_sipush (v := nI 252) hx hb dX0_ones_5 (by decide) ?_
      refine lv_icmp_ge (tgt := 25) hx hb dX0_ones_8 (by decide) (fun c_ => absurd c_ (nI_ge hi8 (by decide))) (fun _ => ?_)
      refine lv_iload_n hx hb dX0_ones_11 rfl (lv_at hl 1 rfl) ?_
      refine lv_aload_n hx hb dX0_ones_12 rfl (lv_at hl 0 rfl) ?_
      refine lv_iload_n hx hb dX0_ones_13 rfl (lv_at hl 2 rfl) ?_
      refine vp_callSi (va_runS (As := [.ref hu, .int (nI i)]) (rest := [.int (nI (wn_bs N i))]) ⟨hx, hb, hml, hown, hts⟩ (met_bit l dC dI hu du fu N i hf (by omega)) (va_cwS 2 hts (lw_S q70 q71 q0 q72) rfl rfl rfl (by decide +kernel) ⟨Nat.le_of_ble_eq_true rfl, Nat.le_of_ble_eq_true rfl⟩) (wk_preSp (hP.sub [0] rfl) (hK.sub [0] rfl)) rfl rfl hl.1 rfl (lv_room (Nat.le_of_ble_eq_true rfl)) dX0_ones_14 ⟨Nat.le_of_ble_eq_true rfl, Nat.le_of_ble_eq_true rfl⟩).run (fun r_ hr_ => ?_)
      refine wk_top (y := nI (N / 2 ^ i % 2)) (hr_) ?_
      refine lv_iadd hx hb dX0_ones_17 ?_
      refine wk_top (y := nI (wn_bs N (i + 1))) (nI_add _ _) ?_
      refine lv_istore_n (lv' := [(1, .int (nI (wn_bs N (i + 1)))), (0, .ref hu), (2, .int (nI i))]) hx hb dX0_ones_18 rfl hl (by decide) rfl (fun ls hl => ?_)
      refine lv_iinc (v := nI (i + 1)) (lv' := [(2, .int (nI (i + 1))), (1, .int (nI (wn_bs N (i + 1)))), (0, .ref hu)]) hx hb dX0_ones_19 hl (k := 2) rfl (nI_1 i) (by decide) rfl (fun ls hl => ?_)
      refine lv_goto (tgt := 4) hx hb dX0_ones_22 (by decide) ?_
      have hl : lv_has ls 3 [(0, .ref hu), (1, .int (nI (wn_bs N (i + 1)))), (2, .int (nI (i + 1)))] := lv_sub hl [2, 1, 0] rfl
      exact ih (i + 1) ls (by omega) hl
  have hl : lv_has ls 3 [(0, .ref hu), (1, .int (nI 0)), (2, .int (nI 0))] := lv_sub hl [2, 1, 0] rfl
  exact loop 252 0 ls (by decide) hl
set_option maxHeartbeats 4000000 in
set_option maxRecDepth 100000 in
/-- makes(r, n), for the digits of n -/
theorem met_makes (l : Launch) (dC : Nat → ClassId) (dI : Nat → Nat → Nat) (hu hv : Nat) (du dv : ClassId) (fu fv : Nat → Int32) (w N : Nat) (hok : wn_ok w) (hf : wn_is fv N) (hfu : (∀ q, q < 253 → (fu q).toInt = wn_dg w (N : Int) q)) : wk_Mp l yX0_makes cX0_makes 4 (some .boolean) ({ frames := 1, cells := 0, slots := 0, locals := 21 } : Room) [.ref hu, .ref hv] (dC, dI) [(hu, .inl (du, 253, .inl fu)), (hv, .inl (dv, 8, .inl fv))] [(du, .int), (dv, .int)] (fun r => r = nI 1) := by
  refine wk_mp (by decide) (Nat.le_of_ble_eq_true rfl) ?_
  intro p e s m below meth c ls hx hb hr hml hlocks hts hown hP hK hl
  have hl : lv_has ls 4 [(0, .ref hu), (1, .ref hv)] := hl
  have hown : s.vm.findClass RX0 = some m.cls := hown
  refine wk_setQ (fun Q hQ => ?_)
  refine lv_iconst (v := nI 0) hx hb dX0_makes_0 (by decide) ?_
  refine lv_istore_n (lv' := [(2, .int (nI 0)), (0, .ref hu), (1, .ref hv)]) hx hb dX0_makes_1 rfl hl (by decide) rfl (fun ls hl => ?_)
  refine lv_iconst (v := nI 0) hx hb dX0_makes_2 (by decide) ?_
  refine lv_istore_n (lv' := [(3, .int (nI 0)), (2, .int (nI 0)), (0, .ref hu), (1, .ref hv)]) hx hb dX0_makes_3 rfl hl (by decide) rfl (fun ls hl => ?_)
  have loop : ∀ (n i : Nat) (x2 : Int32) (ls : Array Slot), n + i = 253 → x2.toInt = wn_lf w N i → lv_has ls 4 [(0, .ref hu), (1, .ref hv), (2, .int x2), (3, .int (nI i))] → W p l e ({ frames := 1, cells := 0, slots := 0, locals := 21 } : Room) s m ([.ref hu, .ref hv] : List Value).toArray below meth c s.heap [] 0 0 Q (F0 m 4 ls []) := by
    intro n
    induction n with
    | zero =>
      intro i x2 ls hi h2 hl
      have hi : i = 253 := by omega
      subst hi
      have h0 : x2 = 0 := Int32.toInt_inj.mp (by rw [h2, wn_lf_end hok hf.1]; decide)
      refine lv_iload_n hx hb dX0_makes_4 rfl (lv_at hl 3 rfl) ?_
      refine lv_sipush (v := nI 253) hx hb dX0_makes_5 (by decide) ?_
      refine lv_icmp_ge (tgt := 41) hx hb dX0_makes_8 (by decide) (fun _ => ?_) (fun c_ => absurd (Int32.le_refl _) c_)
      refine lv_iload_n hx hb dX0_makes_41 rfl (lv_at hl 2 rfl) ?_
      refine lv_if_ne (tgt := 49) hx hb dX0_makes_42 (by decide) (fun c_ => absurd (h0) c_) (fun _ => ?_)
      refine lv_iconst (v := nI 1) hx hb dX0_makes_45 (by decide) ?_
      refine lv_goto (tgt := 50) hx hb dX0_makes_46 (by decide) ?_
      subst hQ
      exact wk_endp hx hb hr rfl hlocks rfl dX0_makes_50
    | succ n ih =>
      intro i x2 ls hi h2 hl
      have hi8 : i < 253 := by omega
      have s1 := wn_lf_step hok N i
      have s2 := wn_lf_small hok N i
      have s3 := wn_lf_small hok N (i + 1)
      have s4 := wn_dg_small hok (N : Int) i
      have s5 : (nI (N / 2 ^ i % 2)).toInt = ((N / 2 ^ i % 2 : Nat) : Int) := nI_toInt (by omega)
      have s6 : N / 2 ^ i % 2 < 2 := Nat.mod_lt _ (by decide)
      refine lv_iload_n hx hb dX0_makes_4 rfl (lv_at hl 3 rfl) ?_
      refine lv_sipush (v := nI 253) hx hb dX0_makes_5 (by decide) ?_
      refine lv_icmp_ge (tgt := 41) hx hb dX0_makes_8 (by decide) (fun c_ => absurd c_ (nI_ge hi8 (by decide))) (fun _ => ?_)
      refine lv_iload_n hx hb dX0_makes_11 rfl (lv_at hl 2 rfl) ?_
      refine lv_aload_n hx hb dX0_makes_12 rfl (lv_at hl 0 rfl) ?_
      refine lv_iload_n hx hb dX0_makes_13 rfl (lv_at hl 3 rfl) ?_
      refine wk_iald hx hb hK hP 0 0 rfl rfl (i := i) (hi8) (by decide) dX0_makes_14 ?_
      refine lv_aload_n hx hb dX0_makes_15 rfl (lv_at hl 1 rfl) ?_
      refine lv_iload_n hx hb dX0_makes_16 rfl (lv_at hl 3 rfl) ?_
      refine vp_callSi (va_runS (As := [.ref hv, .int (nI i)]) (rest := [.int (fu i), .int x2]) ⟨hx, hb, hml, hown, hts⟩ (met_bit l dC dI hv dv fv N i hf hi8) (va_cwS 2 hts (lw_S q70 q71 q0 q72) rfl rfl rfl (by decide +kernel) ⟨Nat.le_of_ble_eq_true rfl, Nat.le_of_ble_eq_true rfl⟩) (wk_preSp (hP.sub [1] rfl) (hK.sub [1] rfl)) rfl rfl hl.1 rfl (lv_room (Nat.le_of_ble_eq_true rfl)) dX0_makes_17 ⟨Nat.le_of_ble_eq_true rfl, Nat.le_of_ble_eq_true rfl⟩).run (fun r_ hr_ => ?_)
      refine wk_top (y := nI (N / 2 ^ i % 2)) (hr_) ?_
      generalize N / 2 ^ i % 2 = bt_ at s1 s5 s6 ⊢
      refine lv_isub hx hb dX0_makes_20 ?_
      refine lv_iadd hx hb dX0_makes_21 ?_
      refine lv_topi (fun lf elf => ?_)
      have e1 : lf.toInt = 2 * wn_lf w N (i + 1) := by
        rw [elf, wn_tadd h2 (wn_tsub (hfu i hi8) s5 (by omega) (by omega)) (by omega) (by omega)]
        exact s1
      refine lv_istore_n (lv' := [(2, .int lf), (0, .ref hu), (1, .ref hv), (3, .int (nI i))]) hx hb dX0_makes_22 rfl hl (by decide) rfl (fun ls hl => ?_)
      refine lv_iload_n hx hb dX0_makes_23 rfl (lv_at hl 0 rfl) ?_
      refine lv_iconst (v := nI 1) hx hb dX0_makes_24 (by decide) ?_
      refine lv_iand hx hb dX0_makes_25 ?_
      refine lv_if_eq (tgt := 31) hx hb dX0_makes_26 (by decide) (fun _ => ?_) (fun c_ => absurd (wn_even32 e1) c_)
      refine lv_iload_n hx hb dX0_makes_31 rfl (lv_at hl 0 rfl) ?_
      refine lv_iconst (v := nI 2) hx hb dX0_makes_32 (by decide) ?_
      refine lv_idiv hx hb dX0_makes_33 (by decide) ?_
      refine lv_istore_n (lv' := [(2, .int (lf / (nI 2))), (0, .ref hu), (1, .ref hv), (3, .int (nI i))]) hx hb dX0_makes_34 rfl hl (by decide) rfl (fun ls hl => ?_)
      refine lv_iinc (v := nI (i + 1)) (lv' := [(3, .int (nI (i + 1))), (2, .int (lf / (nI 2))), (0, .ref hu), (1, .ref hv)]) hx hb dX0_makes_35 hl (k := 3) rfl (nI_1 i) (by decide) rfl (fun ls hl => ?_)
      refine lv_goto (tgt := 4) hx hb dX0_makes_38 (by decide) ?_
      have hl : lv_has ls 4 [(0, .ref hu), (1, .ref hv), (2, .int (lf / (nI 2))), (3, .int (nI (i + 1)))] := lv_sub hl [2, 3, 1, 0] rfl
      exact ih (i + 1) _ ls (by omega) (wn_half32 e1 (by omega) (by omega)) hl
  have hl : lv_has ls 4 [(0, .ref hu), (1, .ref hv), (2, .int (nI 0)), (3, .int (nI 0))] := lv_sub hl [2, 3, 1, 0] rfl
  exact loop 253 0 (nI 0) ls (by decide) (by unfold wn_lf; rw [Nat.pow_zero, Nat.div_one, show (nI 0).toInt = 0 by decide]; show (0 : Int) = (N : Int) - (N : Int); omega) hl
set_option maxHeartbeats 4000000 in
set_option maxRecDepth 100000 in
/-- isForm(r, w), for the digits of a number -/
theorem met_isForm (l : Launch) (dC : Nat → ClassId) (dI : Nat → Nat → Nat) (hu : Nat) (du : ClassId) (fu : Nat → Int32) (w : Nat) (n0 : Int) (hok : wn_ok w) (hfu : ∀ q, q < 253 → (fu q).toInt = wn_dg w n0 q) : wk_Mp l yX0_isForm cX0_isForm 5 (some .boolean) ({ frames := 0, cells := 0, slots := 0, locals := 0 } : Room) [.ref hu, .int (nI w)] (dC, dI) [(hu, .inl (du, 253, .inl fu))] [(du, .int)] (fun r => r = nI 1) := by
  refine wk_mp (by decide) (Nat.le_of_ble_eq_true rfl) ?_
  intro p e s m below meth c ls hx hb hr hml hlocks hts hown hP hK hl
  have hl : lv_has ls 5 [(0, .ref hu), (1, .int (nI w))] := hl
  have hown : s.vm.findClass RX0 = some m.cls := hown
  refine wk_setQ (fun Q hQ => ?_)
  have hw6 : 3 ≤ w ∧ w ≤ 6 := by rcases hok with rfl | rfl | rfl | rfl <;> decide
  obtain ⟨m1, m2, m3, m4⟩ := wn_most hok
  refine lv_iconst (v := nI 1) hx hb dX0_isForm_0 (by decide) ?_
  refine lv_iload_n hx hb dX0_isForm_1 rfl (lv_at hl 1 rfl) ?_
  refine lv_iconst (v := nI 1) hx hb dX0_isForm_2 (by decide) ?_
  refine lv_isub hx hb dX0_isForm_3 ?_
  refine wk_top (y := nI (w - 1)) (pk_sub (by omega)) ?_
  refine lv_ishl hx hb dX0_isForm_4 ?_
  refine wk_top (y := nI (2 ^ (w - 1))) (wn_one_shl hok) ?_
  refine lv_iconst (v := nI 1) hx hb dX0_isForm_5 (by decide) ?_
  refine lv_isub hx hb dX0_isForm_6 ?_
  refine wk_top (y := nI (2 ^ (w - 1) - 1)) (pk_sub (Nat.two_pow_pos _)) ?_
  refine lv_istore_n (lv' := [(2, .int (nI (2 ^ (w - 1) - 1))), (0, .ref hu), (1, .int (nI w))]) hx hb dX0_isForm_7 rfl hl (by decide) rfl (fun ls hl => ?_)
  refine lv_iload_n hx hb dX0_isForm_8 rfl (lv_at hl 2 rfl) ?_
  refine lv_ineg hx hb dX0_isForm_9 ?_
  refine lv_istore_n (lv' := [(3, .int (-(nI w))), (2, .int (nI (2 ^ (w - 1) - 1))), (0, .ref hu), (1, .int (nI w))]) hx hb dX0_isForm_10 rfl hl (by decide) rfl (fun ls hl => ?_)
  refine lv_iconst (v := nI 0) hx hb dX0_isForm_11 (by decide) ?_
  refine lv_istore (lv' := [(4, .int (nI 0)), (3, .int (-(nI w))), (2, .int (nI (2 ^ (w - 1) - 1))), (0, .ref hu), (1, .int (nI w))]) hx hb dX0_isForm_12 hl (by decide) rfl (fun ls hl => ?_)
  have loop : ∀ (n i : Nat) (x3 : Int32) (ls : Array Slot), n + i = 253 → -6 ≤ x3.toInt → x3.toInt < (i : Int) → (∀ k : Nat, i ≤ k → (k : Int) < x3.toInt + w → wn_dg w n0 k = 0) → lv_has ls 5 [(0, .ref hu), (1, .int (nI w)), (2, .int (nI (2 ^ (w - 1) - 1))), (3, .int x3), (4, .int (nI i))] → W p l e ({ frames := 0, cells := 0, slots := 0, locals := 0 } : Room) s m ([.ref hu, .int (nI w)] : List Value).toArray below meth c s.heap [] 0 0 Q (F0 m 14 ls []) := by
    intro n
    induction n with
    | zero =>
      intro i x3 ls hi h1 h2 h3 hl
      have hi : i = 253 := by omega
      subst hi
      refine lv_iload hx hb dX0_isForm_14 (lv_at hl 4 rfl) ?_
      refine lv_sipush (v := nI 253) hx hb dX0_isForm_16 (by decide) ?_
      refine lv_icmp_ge (tgt := 77) hx hb dX0_isForm_19 (by decide) (fun _ => ?_) (fun c_ => absurd (Int32.le_refl _) c_)
      refine lv_iconst (v := nI 1) hx hb dX0_isForm_77 (by decide) ?_
      subst hQ
      exact wk_endp hx hb hr rfl hlocks rfl dX0_isForm_78
    | succ n ih =>
      intro i x3 ls hi h1 h2 h3 hl
      have hi8 : i < 253 := by omega
      have hd := hfu i hi8
      refine lv_iload hx hb dX0_isForm_14 (lv_at hl 4 rfl) ?_
      refine lv_sipush (v := nI 253) hx hb dX0_isForm_16 (by decide) ?_
      refine lv_icmp_ge (tgt := 77) hx hb dX0_isForm_19 (by decide) (fun c_ => absurd c_ (nI_ge hi8 (by decide))) (fun _ => ?_)
      refine lv_aload_n hx hb dX0_isForm_22 rfl (lv_at hl 0 rfl) ?_
      refine lv_iload hx hb dX0_isForm_23 (lv_at hl 4 rfl) ?_
      refine wk_iald hx hb hK hP 0 0 rfl rfl (i := i) (hi8) (by decide) dX0_isForm_25 ?_
      refine lv_if_ne (tgt := 32) hx hb dX0_isForm_26 (by decide) (fun c_1 => ?_) (fun c_1 => ?_)
      · have hne : ¬ wn_dg w n0 i = 0 := fun h_ => c_1 (Int32.toInt_inj.mp (by rw [hd, h_]; decide))
        obtain ⟨o1, o2, o3⟩ := wn_dg_ne hok hne
        rw [← hd] at o1 o2 o3
        have hgap : x3.toInt + w ≤ (i : Int) := by rcases Int.lt_or_le (i : Int) (x3.toInt + w) with h_ | h_; exact absurd (h3 i (Nat.le_refl i) h_) hne; exact h_
        refine lv_aload_n hx hb dX0_isForm_32 rfl (lv_at hl 0 rfl) ?_
        refine lv_iload hx hb dX0_isForm_33 (lv_at hl 4 rfl) ?_
        refine wk_iald hx hb hK hP 0 0 rfl rfl (i := i) (hi8) (by decide) dX0_isForm_35 ?_
        refine lv_iconst (v := nI 1) hx hb dX0_isForm_36 (by decide) ?_
        refine lv_iand hx hb dX0_isForm_37 ?_
        refine lv_if_eq (tgt := 66) hx hb dX0_isForm_38 (by decide) (fun c_ => absurd c_ (wn_odd32 o1)) (fun _ => ?_)
        refine lv_aload_n hx hb dX0_isForm_41 rfl (lv_at hl 0 rfl) ?_
        refine lv_iload hx hb dX0_isForm_42 (lv_at hl 4 rfl) ?_
        refine wk_iald hx hb hK hP 0 0 rfl rfl (i := i) (hi8) (by decide) dX0_isForm_44 ?_
        refine lv_iload_n hx hb dX0_isForm_45 rfl (lv_at hl 2 rfl) ?_
        refine lv_icmp_gt (tgt := 66) hx hb dX0_isForm_46 (by decide) (fun c_ => absurd c_ (by rw [Int32.lt_iff_toInt_lt, m1]; omega)) (fun _ => ?_)
        refine lv_aload_n hx hb dX0_isForm_49 rfl (lv_at hl 0 rfl) ?_
        refine lv_iload hx hb dX0_isForm_50 (lv_at hl 4 rfl) ?_
        refine wk_iald hx hb hK hP 0 0 rfl rfl (i := i) (hi8) (by decide) dX0_isForm_52 ?_
        refine lv_iload_n hx hb dX0_isForm_53 rfl (lv_at hl 2 rfl) ?_
        refine lv_ineg hx hb dX0_isForm_54 ?_
        refine lv_icmp_lt (tgt := 66) hx hb dX0_isForm_55 (by decide) (fun c_ => absurd c_ (by rw [Int32.lt_iff_toInt_lt, m2]; omega)) (fun _ => ?_)
        refine lv_iload hx hb dX0_isForm_58 (lv_at hl 4 rfl) ?_
        refine lv_iload_n hx hb dX0_isForm_60 rfl (lv_at hl 3 rfl) ?_
        refine lv_isub hx hb dX0_isForm_61 ?_
        refine lv_iload_n hx hb dX0_isForm_62 rfl (lv_at hl 1 rfl) ?_
        refine lv_icmp_ge (tgt := 68) hx hb dX0_isForm_63 (by decide) (fun _ => ?_) (fun c_ => absurd (by rw [Int32.le_iff_toInt_le, m4, wn_tsub (nI_toInt (by omega)) rfl (by omega) (by omega)]; omega) c_)
        refine lv_iload hx hb dX0_isForm_68 (lv_at hl 4 rfl) ?_
        refine lv_istore_n (lv' := [(3, .int (nI i)), (0, .ref hu), (1, .int (nI w)), (2, .int (nI (2 ^ (w - 1) - 1))), (4, .int (nI i))]) hx hb dX0_isForm_70 rfl hl (by decide) rfl (fun ls hl => ?_)
        refine lv_iinc (v := nI (i + 1)) (lv' := [(4, .int (nI (i + 1))), (3, .int (nI i)), (0, .ref hu), (1, .int (nI w)), (2, .int (nI (2 ^ (w - 1) - 1)))]) hx hb dX0_isForm_71 hl (k := 4) rfl (nI_1 i) (by decide) rfl (fun ls hl => ?_)
        refine lv_goto (tgt := 14) hx hb dX0_isForm_74 (by decide) ?_
        have hl : lv_has ls 5 [(0, .ref hu), (1, .int (nI w)), (2, .int (nI (2 ^ (w - 1) - 1))), (3, .int (nI i)), (4, .int (nI (i + 1)))] := lv_sub hl [2, 3, 4, 1, 0] rfl
        have hti : (nI i).toInt = (i : Int) := nI_toInt (by omega)
        exact ih (i + 1) (nI i) ls (by omega) (by omega) (by omega) (fun k k1 k2 => wn_gap hok hne (by omega) (by omega)) hl
      · refine lv_goto (tgt := 71) hx hb dX0_isForm_29 (by decide) ?_
        refine lv_iinc (v := nI (i + 1)) (lv' := [(4, .int (nI (i + 1))), (0, .ref hu), (1, .int (nI w)), (2, .int (nI (2 ^ (w - 1) - 1))), (3, .int x3)]) hx hb dX0_isForm_71 hl (k := 4) rfl (nI_1 i) (by decide) rfl (fun ls hl => ?_)
        refine lv_goto (tgt := 14) hx hb dX0_isForm_74 (by decide) ?_
        have hl : lv_has ls 5 [(0, .ref hu), (1, .int (nI w)), (2, .int (nI (2 ^ (w - 1) - 1))), (3, .int x3), (4, .int (nI (i + 1)))] := lv_sub hl [1, 2, 3, 4, 0] rfl
        exact ih (i + 1) x3 ls (by omega) h1 (by omega) (fun k k1 k2 => h3 k (by omega) k2) hl
  have hl : lv_has ls 5 [(0, .ref hu), (1, .int (nI w)), (2, .int (nI (2 ^ (w - 1) - 1))), (3, .int (-(nI w))), (4, .int (nI 0))] := lv_sub hl [3, 4, 2, 1, 0] rfl
  exact loop 253 0 (-(nI w)) ls (by decide) (by omega) (by omega) (fun k k1 k2 => absurd k2 (by omega)) hl
end
section
/-! widths: the digits at the four widths, and of the doubled number -/
theorem wn_wt_len (w : Nat) : ∀ (f : Nat) (n : Int), wn_wt w f n ≤ f := by
  intro f
  induction f with
  | zero => intro n; exact Nat.le_refl _
  | succ f ih =>
    intro n
    have := ih (wn_nx w n)
    show (if n % 2 = 0 then 0 else 1) + wn_wt w f (wn_nx w n) ≤ f + 1
    split <;> omega
theorem wn_bs_len (N : Nat) : ∀ k, wn_bs N k ≤ k := by
  intro k
  induction k with
  | zero => exact Nat.le_refl _
  | succ k ih =>
    show wn_bs N k + N / 2 ^ k % 2 ≤ k + 1
    have := Nat.mod_lt (N / 2 ^ k) (show 0 < 2 by decide)
    omega
theorem wn_least0 {N v : Nat} (hv : wn_ok v) (hN : N < 2 ^ 252) : wn_wt v 253 (N : Int) ≤ wn_bs N 252 := by
  have h1 := wn_ones hv 253 (N : Int)
  rw [wn_pc_bs] at h1
  have h2 : wn_bs N 253 = wn_bs N 252 + N / 2 ^ 252 % 2 := rfl
  rw [Nat.div_eq_of_lt hN] at h2
  omega
theorem wn_dup {w N : Nat} {fr ft : Nat → Int32} (h1 : ∀ q, q < 253 → (fr q).toInt = wn_dg w (N : Int) q) (h2 : ∀ q, q < 253 → (ft q).toInt = wn_dg w ((N + N : Nat) : Int) q) : ft 0 = 0 ∧ ∀ q, q < 252 → ft (q + 1) = fr q := by
  have e : ((N + N : Nat) : Int) = (N : Int) + (N : Int) := Int.natCast_add N N
  rw [e] at h2
  obtain ⟨a, b⟩ := wn_twice w (N : Int)
  refine ⟨Int32.toInt_inj.mp (by rw [h2 0 (by decide), a]; decide), fun q hq => Int32.toInt_inj.mp ?_⟩
  rw [h2 (q + 1) (by omega), b, h1 q (by omega)]
theorem wn_last {w N : Nat} {fr : Nat → Int32} (hok : wn_ok w) (hN : N < 2 ^ 251) (h1 : ∀ q, q < 253 → (fr q).toInt = wn_dg w (N : Int) q) : fr 252 = 0 :=
  Int32.toInt_inj.mp (by rw [h1 252 (by decide), wn_dg_of0 (wn_st_zero hok (Int.natCast_nonneg N) (wn_le2 hN) 252 (by decide))]; decide)
theorem wk_preSR {s : State} {H : Heap} {D : va_G} {cl : List vw_C} {ws : va_W} {tys : List (ClassId × FieldType)} {As : List Value} (hP : va_P D cl ws H) (hK : va_K D cl tys s) : PreS s H (va_Pc As (fun U => U.heap.size = H.size ∧ va_P D cl ws U.heap ∧ va_K D cl tys U)) As :=
  ⟨fun a U g mk q => by obtain ⟨q0, q1, qP, qK⟩ := q; exact ⟨q0, q1, qP, va_K.moved (u := U) (U := U.calling g mk a) (Vm.Alike.refl U.vm) qK⟩, fun U hU hW => ⟨rfl, by rw [hU], by rw [hU]; exact hP, va_K.moved hW.alike hK⟩⟩
theorem wk_preSX {s : State} {H : Heap} {D : va_G} {cl : List vw_C} {b L : Nat} {xs : Nat → Int32} {tys : List (ClassId × FieldType)} {As : List Value} (hX : va_X b L xs s H) (hK : va_K D cl tys s) : PreS s H (va_Pc As (fun U => U.heap.size = H.size ∧ va_X b L xs U U.heap ∧ va_K D cl tys U)) As :=
  ⟨fun a U g mk q => by obtain ⟨q0, q1, qX, qK⟩ := q; exact ⟨q0, q1, va_X.moved (u := U) (U := U.calling g mk a) (Vm.Alike.refl U.vm) qX, va_K.moved (u := U) (U := U.calling g mk a) (Vm.Alike.refl U.vm) qK⟩, fun U hU hW => ⟨rfl, by rw [hU], by rw [hU]; exact va_X.moved hW.alike hX, va_K.moved hW.alike hK⟩⟩
set_option maxHeartbeats 4000000 in
set_option maxRecDepth 100000 in
/-- widths(d, n, x): true -/
theorem met_widths (l : Launch) (dC : Nat → ClassId) (dI : Nat → Nat → Nat) (h0 hn hd ha : Nat) (wv : Int32) (dn da : ClassId) (f fa : Nat → Int32) (sz : Nat) (x : Int32) (N : Nat) (hfa : wn_is fa N) (hN : N < 2 ^ 251) : wk_Mi l yX0_widths cX0_widths 9 (some .boolean) ({ frames := 3, cells := 28, slots := 4208, locals := 75 } : Room) [.ref h0, .ref ha, .int x] sz (dC, dI) [(h0, .inr (0, [.ref hn, .ref hd, .int wv])), (hn, .inl (dn, 8, .inl f)), (ha, .inl (da, 8, .inl fa))] [(dn, .int), (da, .int)] (fun (r : Int32) (_ : Nat × Int32 × (Nat → Int32)) => r = nI 1) (fun u : Nat × Int32 × (Nat → Int32) => [(h0, .inr (0, [.ref hn, .ref u.1, .int u.2.1])), (hn, .inl (dn, 8, .inl u.2.2)), (ha, .inl (da, 8, .inl fa))]) (fun _ : Nat × Int32 × (Nat → Int32) => [(dn, .int), (da, .int)]) 28 4208 := by
  refine wk_met0 (fun A => va_Qi (fun (r : Int32) (_ : Nat × Int32 × (Nat → Int32)) => r = nI 1) (wk_B (dC, dI) vwCl A (fun u : Nat × Int32 × (Nat → Int32) => [(h0, .inr (0, [.ref hn, .ref u.1, .int u.2.1])), (hn, .inl (dn, 8, .inl u.2.2)), (ha, .inl (da, 8, .inl fa))]) (fun _ : Nat × Int32 × (Nat → Int32) => [(dn, .int), (da, .int)])) A) (by decide) (Nat.le_of_ble_eq_true rfl) ?_
  intro p e s m below meth c A ls hx hb hr hml hlocks hts hown hnm hsz hP hK hD hS hA hl
  have hl : lv_has ls 9 [(0, .ref h0), (1, .ref ha), (2, .int x)] := hl
  have hown : s.vm.findClass RX0 = some m.cls := hown
  have hP : va_P (dC, dI) vwCl [(h0, .inr (0, [.ref hn, .ref hd, .int wv])), (hn, .inl (dn, 8, .inl f)), (ha, .inl (da, 8, .inl fa))] s.heap := hP
  have hD : va_D A [(h0, .inr (0, [.ref hn, .ref hd, .int wv])), (hn, .inl (dn, 8, .inl f)), (ha, .inl (da, 8, .inl fa))] := hD
  refine wk_setQ (fun Q hQ => ?_)
  refine lv_aload_n hx hb dX0_widths_0 rfl (lv_at hl 1 rfl) ?_
  refine vp_callSi (va_runS (As := [.ref ha]) (rest := []) ⟨hx, hb, hml, hown, hts⟩ (met_ones l dC dI ha da fa N hfa) (va_cwS 1 hts (lw_S q79 q80 q0 q81) rfl rfl rfl (by decide +kernel) ⟨Nat.le_of_ble_eq_true rfl, Nat.le_of_ble_eq_true rfl⟩) (wk_preSp (hP.sub [2] rfl) (hK.sub [1] rfl)) rfl rfl hl.1 rfl (lv_room (Nat.le_of_ble_eq_true rfl)) dX0_widths_1 ⟨Nat.le_of_ble_eq_true rfl, Nat.le_of_ble_eq_true rfl⟩).run (fun r_ hr_ => ?_)
  refine wk_top (y := nI (wn_bs N 252)) (hr_) ?_
  refine lv_istore_n (lv' := [(3, .int (nI (wn_bs N 252))), (0, .ref h0), (1, .ref ha), (2, .int x)]) hx hb dX0_widths_4 rfl hl (by decide) rfl (fun ls hl => ?_)
  refine lv_iconst (v := nI 0) hx hb dX0_widths_5 (by decide) ?_
  refine lv_istore (lv' := [(4, .int (nI 0)), (3, .int (nI (wn_bs N 252))), (0, .ref h0), (1, .ref ha), (2, .int x)]) hx hb dX0_widths_6 hl (by decide) rfl (fun ls hl => ?_)
  have loop : ∀ (n i least hd : Nat) (wv : Int32) (f : Nat → Int32) (H : Heap) (locs : List Loc) (ls : Array Slot), n + i = 4 → least ≤ 253 → (∀ v, wn_ok v → 3 + i ≤ v → wn_wt v 253 (N : Int) ≤ least) → va_P (dC, dI) vwCl [(h0, .inr (0, [.ref hn, .ref hd, .int wv])), (hn, .inl (dn, 8, .inl f)), (ha, .inl (da, 8, .inl fa))] H → va_D A [(h0, .inr (0, [.ref hn, .ref hd, .int wv])), (hn, .inl (dn, 8, .inl f)), (ha, .inl (da, 8, .inl fa))] → va_S A s.heap H locs → lv_has ls 9 [(0, .ref h0), (1, .ref ha), (2, .int x), (3, .int (nI least)), (4, .int (nI i))] → W p l e ({ frames := 3, cells := 28, slots := 4208, locals := 75 } : Room) s m ([.ref h0, .ref ha, .int x] : List Value).toArray below meth c H locs (7 * i) (1052 * i) Q (F0 m 8 ls []) := by
    intro n
    induction n with
    | zero =>
      intro i least hd wv f H locs ls hi hl253 hle hP hD hS hl
      have hi : i = 4 := by omega
      subst hi
      refine lv_iload hx hb dX0_widths_8 (lv_at hl 4 rfl) ?_
      refine lv_iconst (v := nI 4) hx hb dX0_widths_10 (by decide) ?_
      refine lv_icmp_ge (tgt := 169) hx hb dX0_widths_11 (by decide) (fun _ => ?_) (fun c_ => absurd (Int32.le_refl _) c_)
      refine lv_iconst (v := nI 1) hx hb dX0_widths_169 (by decide) ?_
      subst hQ
      exact wk_endz (hd, wv, f) hx hb hr rfl hlocks hP hK hD hS rfl (by decide) (by decide) dX0_widths_170
    | succ n ih =>
      intro i least hd wv f H locs ls hi hl253 hle hP hD hS hl
      have hi4 : i < 4 := by omega
      have hok : wn_ok (3 + i) := by unfold wn_ok; omega
      refine lv_iload hx hb dX0_widths_8 (lv_at hl 4 rfl) ?_
      refine lv_iconst (v := nI 4) hx hb dX0_widths_10 (by decide) ?_
      refine lv_icmp_ge (tgt := 169) hx hb dX0_widths_11 (by decide) (fun c_ => absurd c_ (nI_ge hi4 (by decide))) (fun _ => ?_)
      refine lv_aload_n hx hb dX0_widths_14 rfl (lv_at hl 0 rfl) ?_
      refine lv_aload_n hx hb dX0_widths_15 rfl (lv_at hl 1 rfl) ?_
      refine lv_iload hx hb dX0_widths_16 (lv_at hl 4 rfl) ?_
      refine lv_iload_n hx hb dX0_widths_18 rfl (lv_at hl 2 rfl) ?_
      refine lv_iconst (v := nI 2) hx hb dX0_widths_19 (by decide) ?_
      refine lv_ishl hx hb dX0_widths_20 ?_
      refine lv_ior hx hb dX0_widths_21 ?_
      refine lv_topi (fun xw exw => ?_)
      have hxw : wn_u xw % 4 = i := by rw [exw]; exact wn_low2 hi4 x
      refine wk_callr (wr := []) (va_runS (As := [.ref h0, .ref ha, .int xw]) (rest := []) ⟨hx, hb, hml, hown, hts⟩ (met_found l dC dI h0 hn hd ha wv dn da f fa H.size xw N hfa) (va_cwS 3 hts (lw_S q46 q47 q0 q48) rfl rfl rfl (by decide +kernel) ⟨Nat.le_of_ble_eq_true rfl, Nat.le_of_ble_eq_true rfl⟩) (wk_preS (hP.sub [0, 1, 2] rfl) (hK.sub [0, 1] rfl) (hD.sub [0, 1, 2] (by decide) rfl)) rfl rfl hl.1 rfl (lv_room (Nat.le_of_ble_eq_true rfl)) dX0_widths_22 ⟨(by show 7 * i + 3 ≤ 28; omega), (by show 1052 * i + 522 ≤ 4208; omega)⟩) hP hD hS hA hK [0, 1, 2] [] [] rfl rfl (by decide) (by decide) rfl (fun u_ ra H locs ⟨p1_fr, p2_fr, p3_fr⟩ hP hK hD hS => ?_)
      obtain ⟨hq, dq, g, f1, dr, fr⟩ := u_
      have hP : va_P (dC, dI) vwCl [(h0, .inr (0, [.ref hn, .ref hq, .int (nI (3 + wn_u xw % 4))])), (hn, .inl (dn, 8, .inl f1)), (ha, .inl (da, 8, .inl fa)), (hq, .inl (dq, 253, .inl g)), (ra, .inl (dr, 253, .inl fr))] H := hP
      have hD : va_D A [(h0, .inr (0, [.ref hn, .ref hq, .int (nI (3 + wn_u xw % 4))])), (hn, .inl (dn, 8, .inl f1)), (ha, .inl (da, 8, .inl fa)), (hq, .inl (dq, 253, .inl g)), (ra, .inl (dr, 253, .inl fr))] := hD
      have hK : va_K (dC, dI) vwCl [(dn, .int), (da, .int), (dq, .byte), (dr, .int)] s := hK
      have p1_fr : ∀ k, k < 8 → f1 k = fa k := p1_fr
      have p2_fr : (∀ q, q < 253 → (g q).toInt = wn_dg (3 + wn_u xw % 4) ((N : Nat) : Int) q) := p2_fr
      have p3_fr : (∀ q, q < 253 → (fr q).toInt = wn_dg (3 + wn_u xw % 4) ((N : Nat) : Int) q) := p3_fr
      rw [hxw] at hP hD p2_fr p3_fr
      have hP : va_P (dC, dI) vwCl [(h0, .inr (0, [.ref hn, .ref hq, .int (nI (3 + i))])), (hn, .inl (dn, 8, .inl f1)), (ha, .inl (da, 8, .inl fa)), (hq, .inl (dq, 253, .inl g)), (ra, .inl (dr, 253, .inl fr))] H := hP
      have hD : va_D A [(h0, .inr (0, [.ref hn, .ref hq, .int (nI (3 + i))])), (hn, .inl (dn, 8, .inl f1)), (ha, .inl (da, 8, .inl fa)), (hq, .inl (dq, 253, .inl g)), (ra, .inl (dr, 253, .inl fr))] := hD
      refine lv_astore (lv' := [(5, .ref ra), (0, .ref h0), (1, .ref ha), (2, .int x), (3, .int (nI least)), (4, .int (nI i))]) hx hb dX0_widths_25 hl (by decide) rfl (fun ls hl => ?_)
      refine lv_aload_n hx hb dX0_widths_27 rfl (lv_at hl 1 rfl) ?_
      refine vp_callSi (va_runV (As := []) (rest := []) ⟨hx, hb, hml, hown, hts⟩ (met_width l dC dI h0 hn hq (nI (3 + i))) (cwV 0 hts (lw_V q28 q29 q30 q1 q31) rfl rfl rfl (by decide +kernel) ⟨Nat.le_of_ble_eq_true rfl, Nat.le_of_ble_eq_true rfl⟩) (wk_preVp (va_recv hK hP (ci := 0) (q0 := 0) rfl rfl) (hP.sub [0] rfl) (hK.sub [] rfl)) rfl rfl hl.1 rfl (lv_room (Nat.le_of_ble_eq_true rfl)) dX0_widths_28 ⟨(by show 7 * i + 3 + 0 ≤ 28; omega), (by show 1052 * i + 522 + 0 ≤ 4208; omega)⟩).run (fun r_ hr_ => ?_)
      refine wk_top (y := nI (3 + i)) (hr_) ?_
      refine lv_iconst (v := nI 3) hx hb dX0_widths_31 (by decide) ?_
      refine lv_iload hx hb dX0_widths_32 (lv_at hl 5 rfl) ?_
      refine lv_iadd hx hb dX0_widths_34 ?_
      refine wk_top (y := nI (3 + i)) (nI_add _ _) ?_
      refine lv_icmp_ne (tgt := 68) hx hb dX0_widths_35 (by decide) (fun c_ => absurd (rfl) c_) (fun _ => ?_)
      refine lv_aload hx hb dX0_widths_38 (lv_at hl 0 rfl) ?_
      refine lv_iconst (v := nI 3) hx hb dX0_widths_40 (by decide) ?_
      refine lv_iload hx hb dX0_widths_41 (lv_at hl 5 rfl) ?_
      refine lv_iadd hx hb dX0_widths_43 ?_
      refine wk_top (y := nI (3 + i)) (nI_add _ _) ?_
      refine vp_callSi (va_runS (As := [.ref ra, .int (nI (3 + i))]) (rest := []) ⟨hx, hb, hml, hown, hts⟩ (met_isForm l dC dI ra dr fr (3 + i) (N : Int) hok p3_fr) (va_cwS 2 hts (lw_S q73 q74 q0 q75) rfl rfl rfl (by decide +kernel) ⟨Nat.le_of_ble_eq_true rfl, Nat.le_of_ble_eq_true rfl⟩) (wk_preSp (hP.sub [4] rfl) (hK.sub [3] rfl)) rfl rfl hl.1 rfl (lv_room (Nat.le_of_ble_eq_true rfl)) dX0_widths_44 ⟨(by show 7 * i + 3 + 0 ≤ 28; omega), (by show 1052 * i + 522 + 0 ≤ 4208; omega)⟩).run (fun r_ hr_ => ?_)
      refine wk_top (y := nI 1) (hr_) ?_
      refine lv_if_eq (tgt := 68) hx hb dX0_widths_47 (by decide) (fun c_ => absurd c_ (by decide)) (fun _ => ?_)
      refine lv_aload hx hb dX0_widths_50 (lv_at hl 0 rfl) ?_
      refine lv_aload_n hx hb dX0_widths_52 rfl (lv_at hl 2 rfl) ?_
      refine vp_callSi (va_runS (As := [.ref ra, .ref ha]) (rest := []) ⟨hx, hb, hml, hown, hts⟩ (met_makes l dC dI ra ha dr da fr fa (3 + i) N hok hfa p3_fr) (va_cwS 2 hts (lw_S q67 q68 q0 q69) rfl rfl rfl (by decide +kernel) ⟨Nat.le_of_ble_eq_true rfl, Nat.le_of_ble_eq_true rfl⟩) (wk_preSp (hP.sub [4, 2] rfl) (hK.sub [3, 1] rfl)) rfl rfl hl.1 rfl (lv_room (Nat.le_of_ble_eq_true rfl)) dX0_widths_53 ⟨(by show 7 * i + 3 + 0 ≤ 28; omega), (by show 1052 * i + 522 + 0 ≤ 4208; omega)⟩).run (fun r_ hr_ => ?_)
      refine wk_top (y := nI 1) (hr_) ?_
      refine lv_if_eq (tgt := 68) hx hb dX0_widths_56 (by decide) (fun c_ => absurd c_ (by decide)) (fun _ => ?_)
      have hcn : nI (wn_cn fr 253) = nI (wn_wt (3 + i) 253 (N : Int)) := by rw [wn_cn_wt hok 253 p3_fr]
      refine lv_aload hx hb dX0_widths_59 (lv_at hl 0 rfl) ?_
      refine vp_callSi (va_runS (As := [.ref ra]) (rest := []) ⟨hx, hb, hml, hown, hts⟩ (met_many l dC dI ra dr fr) (va_cwS 1 hts (lw_S q64 q65 q0 q66) rfl rfl rfl (by decide +kernel) ⟨Nat.le_of_ble_eq_true rfl, Nat.le_of_ble_eq_true rfl⟩) (wk_preSp (hP.sub [4] rfl) (hK.sub [3] rfl)) rfl rfl hl.1 rfl (lv_room (Nat.le_of_ble_eq_true rfl)) dX0_widths_61 ⟨(by show 7 * i + 3 + 0 ≤ 28; omega), (by show 1052 * i + 522 + 0 ≤ 4208; omega)⟩).run (fun r_ hr_ => ?_)
      refine wk_top (y := nI (wn_wt (3 + i) 253 (N : Int))) (hr_.trans hcn) ?_
      refine lv_iload_n hx hb dX0_widths_64 rfl (lv_at hl 4 rfl) ?_
      refine lv_icmp_le (tgt := 70) hx hb dX0_widths_65 (by decide) (fun _ => ?_) (fun c_ => absurd (nI_le (hle (3 + i) hok (Nat.le_refl _)) (by omega)) c_)
      refine lv_aload hx hb dX0_widths_70 (lv_at hl 0 rfl) ?_
      refine vp_callSi (va_runS (As := [.ref ra]) (rest := []) ⟨hx, hb, hml, hown, hts⟩ (met_many l dC dI ra dr fr) (va_cwS 1 hts (lw_S q64 q65 q0 q66) rfl rfl rfl (by decide +kernel) ⟨Nat.le_of_ble_eq_true rfl, Nat.le_of_ble_eq_true rfl⟩) (wk_preSp (hP.sub [4] rfl) (hK.sub [3] rfl)) rfl rfl hl.1 rfl (lv_room (Nat.le_of_ble_eq_true rfl)) dX0_widths_72 ⟨(by show 7 * i + 3 + 0 ≤ 28; omega), (by show 1052 * i + 522 + 0 ≤ 4208; omega)⟩).run (fun r_ hr_ => ?_)
      refine wk_top (y := nI (wn_wt (3 + i) 253 (N : Int))) (hr_.trans hcn) ?_
      refine lv_istore_n (lv' := [(3, .int (nI (wn_wt (3 + i) 253 (N : Int)))), (5, .ref ra), (0, .ref h0), (1, .ref ha), (2, .int x), (4, .int (nI i))]) hx hb dX0_widths_75 rfl hl (by decide) rfl (fun ls hl => ?_)
      refine lv_aload_n hx hb dX0_widths_76 rfl (lv_at hl 2 rfl) ?_
      refine lv_aload_n hx hb dX0_widths_77 rfl (lv_at hl 3 rfl) ?_
      refine lv_aload_n hx hb dX0_widths_78 rfl (lv_at hl 3 rfl) ?_
      refine wk_callr (wr := [(h0, .inr (0, [.ref hn, .ref hq, .int (nI (3 + i))])), (hn, .inl (dn, 8, .inl f1)), (ha, .inl (da, 8, .inl fa)), (hq, .inl (dq, 253, .inl g)), (ra, .inl (dr, 253, .inl fr))]) (va_runS (As := [.ref ha, .ref ha]) (rest := [.ref h0]) ⟨hx, hb, hml, hown, hts⟩ (met_sum l dC dI ha ha da da fa fa N N hfa hfa (by omega) H.size) (va_cwS 2 hts (lw_S q39 q40 q0 q41) rfl rfl rfl (by decide +kernel) ⟨Nat.le_of_ble_eq_true rfl, Nat.le_of_ble_eq_true rfl⟩) (wk_preSR (hP.sub [2, 2] rfl) (hK.sub [1, 1] rfl)) rfl rfl hl.1 rfl (lv_room (Nat.le_of_ble_eq_true rfl)) dX0_widths_79 ⟨(by show 7 * i + 3 + 1 ≤ 28; omega), (by show 1052 * i + 522 + 8 ≤ 4208; omega)⟩) hP hD hS hA hK [] [0, 1, 2, 3, 4] [0, 1, 2, 3] rfl rfl (by decide) (by decide) rfl (fun u_ rz H locs hfz hP hK hD hS => ?_)
      obtain ⟨dz, fz⟩ := u_
      have hP : va_P (dC, dI) vwCl [(h0, .inr (0, [.ref hn, .ref hq, .int (nI (3 + i))])), (hn, .inl (dn, 8, .inl f1)), (ha, .inl (da, 8, .inl fa)), (hq, .inl (dq, 253, .inl g)), (ra, .inl (dr, 253, .inl fr)), (rz, .inl (dz, 8, .inl fz))] H := hP
      have hD : va_D A [(h0, .inr (0, [.ref hn, .ref hq, .int (nI (3 + i))])), (hn, .inl (dn, 8, .inl f1)), (ha, .inl (da, 8, .inl fa)), (hq, .inl (dq, 253, .inl g)), (ra, .inl (dr, 253, .inl fr)), (rz, .inl (dz, 8, .inl fz))] := hD
      have hK : va_K (dC, dI) vwCl [(dn, .int), (da, .int), (dq, .byte), (dr, .int), (dz, .int)] s := hK
      have hfz : wn_is fz (N + N) := hfz
      refine lv_iload hx hb dX0_widths_82 (lv_at hl 5 rfl) ?_
      have hwi : wn_u (nI i) % 4 = i := by rw [wn_u_nI (by omega)]; omega
      refine wk_callr (wr := [(ha, .inl (da, 8, .inl fa)), (hq, .inl (dq, 253, .inl g)), (ra, .inl (dr, 253, .inl fr))]) (va_runS (As := [.ref h0, .ref rz, .int (nI i)]) (rest := []) ⟨hx, hb, hml, hown, hts⟩ (met_found l dC dI h0 hn hq rz (nI (3 + i)) dn dz f1 fz H.size (nI i) (N + N) hfz) (va_cwS 3 hts (lw_S q46 q47 q0 q48) rfl rfl rfl (by decide +kernel) ⟨Nat.le_of_ble_eq_true rfl, Nat.le_of_ble_eq_true rfl⟩) (wk_preS (hP.sub [0, 1, 5] rfl) (hK.sub [0, 4] rfl) (hD.sub [0, 1, 5] (by decide) rfl)) rfl rfl hl.1 rfl (lv_room (Nat.le_of_ble_eq_true rfl)) dX0_widths_84 ⟨(by show 7 * i + 3 + 1 + 3 ≤ 28; omega), (by show 1052 * i + 522 + 8 + 522 ≤ 4208; omega)⟩) hP hD hS hA hK [0, 1, 5] [2, 3, 4] [1, 2, 3] rfl rfl (by decide) (by decide) rfl (fun u_ rt H locs ⟨p1_ft, p2_ft, p3_ft⟩ hP hK hD hS => ?_)
      obtain ⟨hq2, dq2, g2, f2, dt, ft⟩ := u_
      have hP : va_P (dC, dI) vwCl [(ha, .inl (da, 8, .inl fa)), (hq, .inl (dq, 253, .inl g)), (ra, .inl (dr, 253, .inl fr)), (h0, .inr (0, [.ref hn, .ref hq2, .int (nI (3 + wn_u (nI i) % 4))])), (hn, .inl (dn, 8, .inl f2)), (rz, .inl (dz, 8, .inl fz)), (hq2, .inl (dq2, 253, .inl g2)), (rt, .inl (dt, 253, .inl ft))] H := hP
      have hD : va_D A [(ha, .inl (da, 8, .inl fa)), (hq, .inl (dq, 253, .inl g)), (ra, .inl (dr, 253, .inl fr)), (h0, .inr (0, [.ref hn, .ref hq2, .int (nI (3 + wn_u (nI i) % 4))])), (hn, .inl (dn, 8, .inl f2)), (rz, .inl (dz, 8, .inl fz)), (hq2, .inl (dq2, 253, .inl g2)), (rt, .inl (dt, 253, .inl ft))] := hD
      have hK : va_K (dC, dI) vwCl [(da, .int), (dq, .byte), (dr, .int), (dn, .int), (dz, .int), (dq2, .byte), (dt, .int)] s := hK
      have p1_ft : ∀ k, k < 8 → f2 k = fz k := p1_ft
      have p2_ft : (∀ q, q < 253 → (g2 q).toInt = wn_dg (3 + wn_u (nI i) % 4) (((N + N) : Nat) : Int) q) := p2_ft
      have p3_ft : (∀ q, q < 253 → (ft q).toInt = wn_dg (3 + wn_u (nI i) % 4) (((N + N) : Nat) : Int) q) := p3_ft
      rw [hwi] at hP hD p2_ft p3_ft
      have hP : va_P (dC, dI) vwCl [(ha, .inl (da, 8, .inl fa)), (hq, .inl (dq, 253, .inl g)), (ra, .inl (dr, 253, .inl fr)), (h0, .inr (0, [.ref hn, .ref hq2, .int (nI (3 + i))])), (hn, .inl (dn, 8, .inl f2)), (rz, .inl (dz, 8, .inl fz)), (hq2, .inl (dq2, 253, .inl g2)), (rt, .inl (dt, 253, .inl ft))] H := hP
      have hD : va_D A [(ha, .inl (da, 8, .inl fa)), (hq, .inl (dq, 253, .inl g)), (ra, .inl (dr, 253, .inl fr)), (h0, .inr (0, [.ref hn, .ref hq2, .int (nI (3 + i))])), (hn, .inl (dn, 8, .inl f2)), (rz, .inl (dz, 8, .inl fz)), (hq2, .inl (dq2, 253, .inl g2)), (rt, .inl (dt, 253, .inl ft))] := hD
      refine W.widen (k := 7 * (i + 1)) (n := 1052 * (i + 1)) (by omega) (by omega) ?_
      obtain ⟨t0, ts⟩ := wn_dup p3_fr p3_ft
      have r252 := wn_last hok hN p3_fr
      refine lv_astore (lv' := [(6, .ref rt), (3, .int (nI (wn_wt (3 + i) 253 (N : Int)))), (5, .ref ra), (0, .ref h0), (1, .ref ha), (2, .int x), (4, .int (nI i))]) hx hb dX0_widths_87 hl (by decide) rfl (fun ls hl => ?_)
      refine lv_aload hx hb dX0_widths_89 (lv_at hl 0 rfl) ?_
      refine lv_iconst (v := nI 0) hx hb dX0_widths_91 (by decide) ?_
      refine wk_iald hx hb hK hP 7 6 rfl rfl (i := 0) (by decide) (by decide) dX0_widths_92 ?_
      refine lv_if_ne (tgt := 109) hx hb dX0_widths_93 (by decide) (fun c_ => absurd (t0) c_) (fun _ => ?_)
      refine lv_aload hx hb dX0_widths_96 (lv_at hl 2 rfl) ?_
      refine lv_sipush (v := nI 252) hx hb dX0_widths_98 (by decide) ?_
      refine wk_iald hx hb hK hP 2 2 rfl rfl (i := 252) (by decide) (by decide) dX0_widths_101 ?_
      refine lv_if_ne (tgt := 109) hx hb dX0_widths_102 (by decide) (fun c_ => absurd (r252) c_) (fun _ => ?_)
      refine lv_iconst (v := nI 1) hx hb dX0_widths_105 (by decide) ?_
      refine lv_goto (tgt := 110) hx hb dX0_widths_106 (by decide) ?_
      refine lv_istore (lv' := [(7, .int (nI 1)), (6, .ref rt), (3, .int (nI (wn_wt (3 + i) 253 (N : Int)))), (5, .ref ra), (0, .ref h0), (1, .ref ha), (2, .int x), (4, .int (nI i))]) hx hb dX0_widths_110 hl (by decide) rfl (fun ls hl => ?_)
      refine lv_iconst (v := nI 1) hx hb dX0_widths_112 (by decide) ?_
      refine lv_istore (lv' := [(8, .int (nI 1)), (7, .int (nI 1)), (6, .ref rt), (3, .int (nI (wn_wt (3 + i) 253 (N : Int)))), (5, .ref ra), (0, .ref h0), (1, .ref ha), (2, .int x), (4, .int (nI i))]) hx hb dX0_widths_113 hl (by decide) rfl (fun ls hl => ?_)
      have hl : lv_has ls 9 [(0, .ref h0), (1, .ref ha), (2, .int x), (3, .int (nI (wn_wt (3 + i) 253 (N : Int)))), (4, .int (nI i)), (5, .ref ra), (6, .ref rt), (7, .int (nI 1)), (8, .int (nI 1))] := lv_sub hl [5, 6, 7, 3, 8, 4, 2, 1, 0] rfl
      have loop2 : ∀ (k j : Nat) (ls : Array Slot), k + j = 253 → 1 ≤ j → lv_has ls 9 [(0, .ref h0), (1, .ref ha), (2, .int x), (3, .int (nI (wn_wt (3 + i) 253 (N : Int)))), (4, .int (nI i)), (5, .ref ra), (6, .ref rt), (7, .int (nI 1)), (8, .int (nI j))] → W p l e ({ frames := 3, cells := 28, slots := 4208, locals := 75 } : Room) s m ([.ref h0, .ref ha, .int x] : List Value).toArray below meth c H locs (7 * (i + 1)) (1052 * (i + 1)) Q (F0 m 115 ls []) := by
        intro k
        induction k with
        | zero =>
          intro j ls hj h1 hl
          have hj : j = 253 := by omega
          refine lv_iload hx hb dX0_widths_115 (lv_at hl 8 rfl) ?_
          refine lv_sipush (v := nI 253) hx hb dX0_widths_117 (by decide) ?_
          refine lv_icmp_ge (tgt := 156) hx hb dX0_widths_120 (by decide) (fun _ => ?_) (fun c_ => absurd (nI_le (by omega) (by omega)) c_)
          refine lv_iload hx hb dX0_widths_156 (lv_at hl 7 rfl) ?_
          refine lv_if_ne (tgt := 163) hx hb dX0_widths_158 (by decide) (fun _ => ?_) (fun c_ => absurd c_ (by decide))
          refine lv_iinc (v := nI (i + 1)) (lv' := [(4, .int (nI (i + 1))), (0, .ref h0), (1, .ref ha), (2, .int x), (3, .int (nI (wn_wt (3 + i) 253 (N : Int)))), (5, .ref ra), (6, .ref rt), (7, .int (nI 1)), (8, .int (nI j))]) hx hb dX0_widths_163 hl (k := 4) rfl (nI_1 i) (by decide) rfl (fun ls hl => ?_)
          refine lv_goto (tgt := 8) hx hb dX0_widths_166 (by decide) ?_
          have hl : lv_has ls 9 [(0, .ref h0), (1, .ref ha), (2, .int x), (3, .int (nI (wn_wt (3 + i) 253 (N : Int)))), (4, .int (nI (i + 1)))] := lv_sub hl [1, 2, 3, 4, 0] rfl
          exact ih (i + 1) (wn_wt (3 + i) 253 (N : Int)) hq2 (nI (3 + i)) f2 H locs ls (by omega) (wn_wt_len _ _ _) (fun v hv h3 => wn_wide hok hv (by omega) 253 253 (Nat.le_refl _) _) (hP.sub [3, 4, 0] rfl) (hD.sub [3, 4, 0] (by decide) rfl) hS hl
        | succ k ihk =>
          intro j ls hj h1 hl
          have hj8 : j < 253 := by omega
          refine lv_iload hx hb dX0_widths_115 (lv_at hl 8 rfl) ?_
          refine lv_sipush (v := nI 253) hx hb dX0_widths_117 (by decide) ?_
          refine lv_icmp_ge (tgt := 156) hx hb dX0_widths_120 (by decide) (fun c_ => absurd c_ (nI_ge hj8 (by decide))) (fun _ => ?_)
          refine lv_iload hx hb dX0_widths_123 (lv_at hl 7 rfl) ?_
          refine lv_if_eq (tgt := 156) hx hb dX0_widths_125 (by decide) (fun c_ => absurd c_ (by decide)) (fun _ => ?_)
          refine lv_aload hx hb dX0_widths_128 (lv_at hl 6 rfl) ?_
          refine lv_iload hx hb dX0_widths_130 (lv_at hl 8 rfl) ?_
          refine wk_iald hx hb hK hP 7 6 rfl rfl (i := j) (hj8) (by decide) dX0_widths_132 ?_
          refine lv_aload hx hb dX0_widths_133 (lv_at hl 5 rfl) ?_
          refine lv_iload hx hb dX0_widths_135 (lv_at hl 8 rfl) ?_
          refine lv_iconst (v := nI 1) hx hb dX0_widths_137 (by decide) ?_
          refine lv_isub hx hb dX0_widths_138 ?_
          refine wk_top (y := nI (j - 1)) (pk_sub h1) ?_
          refine wk_iald hx hb hK hP 2 2 rfl rfl (i := (j - 1)) (by omega) (by decide) dX0_widths_139 ?_
          refine lv_icmp_ne (tgt := 147) hx hb dX0_widths_140 (by decide) (fun c_ => absurd (by have h_ := ts (j - 1) (by omega); rw [Nat.sub_add_cancel h1] at h_; exact h_) c_) (fun _ => ?_)
          refine lv_iconst (v := nI 1) hx hb dX0_widths_143 (by decide) ?_
          refine lv_goto (tgt := 148) hx hb dX0_widths_144 (by decide) ?_
          refine lv_istore (lv' := [(7, .int (nI 1)), (0, .ref h0), (1, .ref ha), (2, .int x), (3, .int (nI (wn_wt (3 + i) 253 (N : Int)))), (4, .int (nI i)), (5, .ref ra), (6, .ref rt), (8, .int (nI j))]) hx hb dX0_widths_148 hl (by decide) rfl (fun ls hl => ?_)
          refine lv_iinc (v := nI (j + 1)) (lv' := [(8, .int (nI (j + 1))), (7, .int (nI 1)), (0, .ref h0), (1, .ref ha), (2, .int x), (3, .int (nI (wn_wt (3 + i) 253 (N : Int)))), (4, .int (nI i)), (5, .ref ra), (6, .ref rt)]) hx hb dX0_widths_150 hl (k := 8) rfl (nI_1 j) (by decide) rfl (fun ls hl => ?_)
          refine lv_goto (tgt := 115) hx hb dX0_widths_153 (by decide) ?_
          have hl : lv_has ls 9 [(0, .ref h0), (1, .ref ha), (2, .int x), (3, .int (nI (wn_wt (3 + i) 253 (N : Int)))), (4, .int (nI i)), (5, .ref ra), (6, .ref rt), (7, .int (nI 1)), (8, .int (nI (j + 1)))] := lv_sub hl [2, 3, 4, 5, 6, 7, 8, 1, 0] rfl
          exact ihk (j + 1) ls (by omega) (by omega) hl
      exact loop2 252 1 ls (by decide) (by decide) hl
  have hl : lv_has ls 9 [(0, .ref h0), (1, .ref ha), (2, .int x), (3, .int (nI (wn_bs N 252))), (4, .int (nI 0))] := lv_sub hl [2, 3, 4, 1, 0] rfl
  exact loop 4 0 (wn_bs N 252) hd wv f _ _ ls (by decide) (Nat.le_trans (wn_bs_len N 252) (by decide)) (fun v hv _ => wn_least0 hv hfa.1) hP hD hS hl
end
section
/-! stays: the digits stay till they are sought again; the words laid one by one give the same -/
theorem wn_back {f fa : Nat → Int32} {k : Nat} (hk : k < 8) (h7 : wn_u (fa 7) < 268435456) (h : ∀ q, k + 1 ≤ q → q < 8 → f q = fa q) {f' : Nat → Int32} (e : f' = upd f k (if k = 7 then fa k &&& 268435455 else fa k)) : ∀ q, k ≤ q → q < 8 → f' q = fa q := by
  intro q h1 h2
  rw [e]
  by_cases c1 : q = k
  · rw [c1, pk_us]
    by_cases c2 : k = 7
    · rw [if_pos c2, c2, wn_mask28 h7]
    · rw [if_neg c2]
  · rw [pk_un c1]
    exact h q (by omega) h2
theorem wn_same {w : Nat} {n : Int} {f g : Nat → Int32} (h1 : ∀ q, q < 253 → (f q).toInt = wn_dg w n q) (h2 : ∀ q, q < 253 → (g q).toInt = wn_dg w n q) : ∀ q, q < 253 → f q = g q := fun q hq => Int32.toInt_inj.mp (by rw [h1 q hq, h2 q hq])
set_option maxHeartbeats 4000000 in
set_option maxRecDepth 100000 in
/-- stays(d, n, m, x, y): true -/
theorem met_stays (l : Launch) (dC : Nat → ClassId) (dI : Nat → Nat → Nat) (h0 hn hd ha hm : Nat) (wv : Int32) (dn da dm : ClassId) (f fa fm : Nat → Int32) (sz : Nat) (x y : Int32) (N M : Nat) (hfa : wn_is fa N) (hfm : wn_is fm M) : wk_Mi l yX0_stays cX0_stays 7 (some .boolean) ({ frames := 3, cells := 7, slots := 1297, locals := 75 } : Room) [.ref h0, .ref ha, .ref hm, .int x, .int y] sz (dC, dI) [(h0, .inr (0, [.ref hn, .ref hd, .int wv])), (hn, .inl (dn, 8, .inl f)), (ha, .inl (da, 8, .inl fa)), (hm, .inl (dm, 8, .inl fm))] [(dn, .int), (da, .int), (dm, .int)] (fun (r : Int32) (_ : Nat × Int32 × (Nat → Int32)) => r = nI 1) (fun u : Nat × Int32 × (Nat → Int32) => [(h0, .inr (0, [.ref hn, .ref u.1, .int u.2.1])), (hn, .inl (dn, 8, .inl u.2.2)), (ha, .inl (da, 8, .inl fa)), (hm, .inl (dm, 8, .inl fm))]) (fun _ : Nat × Int32 × (Nat → Int32) => [(dn, .int), (da, .int), (dm, .int)]) 7 1297 := by
  refine wk_met0 (fun A => va_Qi (fun (r : Int32) (_ : Nat × Int32 × (Nat → Int32)) => r = nI 1) (wk_B (dC, dI) vwCl A (fun u : Nat × Int32 × (Nat → Int32) => [(h0, .inr (0, [.ref hn, .ref u.1, .int u.2.1])), (hn, .inl (dn, 8, .inl u.2.2)), (ha, .inl (da, 8, .inl fa)), (hm, .inl (dm, 8, .inl fm))]) (fun _ : Nat × Int32 × (Nat → Int32) => [(dn, .int), (da, .int), (dm, .int)])) A) (by decide) (Nat.le_of_ble_eq_true rfl) ?_
  intro p e s m below meth c A ls hx hb hr hml hlocks hts hown hnm hsz hP hK hD hS hA hl
  have hl : lv_has ls 7 [(0, .ref h0), (1, .ref ha), (2, .ref hm), (3, .int x), (4, .int y)] := hl
  have hown : s.vm.findClass RX0 = some m.cls := hown
  have hP : va_P (dC, dI) vwCl [(h0, .inr (0, [.ref hn, .ref hd, .int wv])), (hn, .inl (dn, 8, .inl f)), (ha, .inl (da, 8, .inl fa)), (hm, .inl (dm, 8, .inl fm))] s.heap := hP
  have hD : va_D A [(h0, .inr (0, [.ref hn, .ref hd, .int wv])), (hn, .inl (dn, 8, .inl f)), (ha, .inl (da, 8, .inl fa)), (hm, .inl (dm, 8, .inl fm))] := hD
  refine wk_setQ (fun Q hQ => ?_)
  refine lv_aload_n hx hb dX0_stays_0 rfl (lv_at hl 0 rfl) ?_
  refine lv_aload_n hx hb dX0_stays_1 rfl (lv_at hl 1 rfl) ?_
  refine lv_iload_n hx hb dX0_stays_2 rfl (lv_at hl 3 rfl) ?_
  refine wk_callr (wr := [(hm, .inl (dm, 8, .inl fm))]) (va_runS (As := [.ref h0, .ref ha, .int x]) (rest := []) ⟨hx, hb, hml, hown, hts⟩ (met_found l dC dI h0 hn hd ha wv dn da f fa s.heap.size x N hfa) (va_cwS 3 hts (lw_S q46 q47 q0 q48) rfl rfl rfl (by decide +kernel) ⟨Nat.le_of_ble_eq_true rfl, Nat.le_of_ble_eq_true rfl⟩) (wk_preS (hP.sub [0, 1, 2] rfl) (hK.sub [0, 1] rfl) (hD.sub [0, 1, 2] (by decide) rfl)) rfl rfl hl.1 rfl (lv_room (Nat.le_of_ble_eq_true rfl)) dX0_stays_3 ⟨Nat.le_of_ble_eq_true rfl, Nat.le_of_ble_eq_true rfl⟩) hP hD hS hA hK [0, 1, 2] [3] [2] rfl rfl (by decide) (by decide) rfl (fun u_ ra H locs ⟨p1_fr, p2_fr, p3_fr⟩ hP hK hD hS => ?_)
  obtain ⟨hq, dq, g, f1, dr, fr⟩ := u_
  have hP : va_P (dC, dI) vwCl [(hm, .inl (dm, 8, .inl fm)), (h0, .inr (0, [.ref hn, .ref hq, .int (nI (3 + wn_u x % 4))])), (hn, .inl (dn, 8, .inl f1)), (ha, .inl (da, 8, .inl fa)), (hq, .inl (dq, 253, .inl g)), (ra, .inl (dr, 253, .inl fr))] H := hP
  have hD : va_D A [(hm, .inl (dm, 8, .inl fm)), (h0, .inr (0, [.ref hn, .ref hq, .int (nI (3 + wn_u x % 4))])), (hn, .inl (dn, 8, .inl f1)), (ha, .inl (da, 8, .inl fa)), (hq, .inl (dq, 253, .inl g)), (ra, .inl (dr, 253, .inl fr))] := hD
  have hK : va_K (dC, dI) vwCl [(dm, .int), (dn, .int), (da, .int), (dq, .byte), (dr, .int)] s := hK
  have p1_fr : ∀ k, k < 8 → f1 k = fa k := p1_fr
  have p2_fr : (∀ q, q < 253 → (g q).toInt = wn_dg (3 + wn_u x % 4) ((N : Nat) : Int) q) := p2_fr
  have p3_fr : (∀ q, q < 253 → (fr q).toInt = wn_dg (3 + wn_u x % 4) ((N : Nat) : Int) q) := p3_fr
  refine lv_astore (lv' := [(5, .ref ra), (0, .ref h0), (1, .ref ha), (2, .ref hm), (3, .int x), (4, .int y)]) hx hb dX0_stays_6 hl (by decide) rfl (fun ls hl => ?_)
  refine lv_aload_n hx hb dX0_stays_8 rfl (lv_at hl 1 rfl) ?_
  refine lv_aload_n hx hb dX0_stays_9 rfl (lv_at hl 3 rfl) ?_
  refine wk_callv (wr := [(ha, .inl (da, 8, .inl fa)), (hq, .inl (dq, 253, .inl g)), (ra, .inl (dr, 253, .inl fr))]) (va_runS (As := [.ref h0, .ref hm]) (rest := []) ⟨hx, hb, hml, hown, hts⟩ (met_slay l dC dI h0 hn hq hm (nI (3 + wn_u x % 4)) dn dm f1 fm H.size (wn_is_top hfm)) (va_cwS 2 hts (lw_S q49 q50 q0 q51) rfl rfl rfl (by decide +kernel) ⟨Nat.le_of_ble_eq_true rfl, Nat.le_of_ble_eq_true rfl⟩) (wk_preS (hP.sub [1, 2, 0] rfl) (hK.sub [1, 0] rfl) (hD.sub [1, 2, 0] (by decide) rfl)) rfl rfl hl.1 rfl (lv_room (Nat.le_of_ble_eq_true rfl)) dX0_stays_10 ⟨Nat.le_of_ble_eq_true rfl, Nat.le_of_ble_eq_true rfl⟩) hP hD hS hA hK [1, 2, 0] [3, 4, 5] [2, 3, 4] rfl rfl (by decide) (by decide) rfl (fun f2 H locs _ hP hK hD hS => ?_)
  have hP : va_P (dC, dI) vwCl [(ha, .inl (da, 8, .inl fa)), (hq, .inl (dq, 253, .inl g)), (ra, .inl (dr, 253, .inl fr)), (h0, .inr (0, [.ref hn, .ref hq, .int (nI (3 + wn_u x % 4))])), (hn, .inl (dn, 8, .inl f2)), (hm, .inl (dm, 8, .inl fm))] H := hP
  have hD : va_D A [(ha, .inl (da, 8, .inl fa)), (hq, .inl (dq, 253, .inl g)), (ra, .inl (dr, 253, .inl fr)), (h0, .inr (0, [.ref hn, .ref hq, .int (nI (3 + wn_u x % 4))])), (hn, .inl (dn, 8, .inl f2)), (hm, .inl (dm, 8, .inl fm))] := hD
  have hK : va_K (dC, dI) vwCl [(da, .int), (dq, .byte), (dr, .int), (dn, .int), (dm, .int)] s := hK
  refine lv_aload_n hx hb dX0_stays_13 rfl (lv_at hl 1 rfl) ?_
  refine lv_iload hx hb dX0_stays_14 (lv_at hl 5 rfl) ?_
  refine lv_iload hx hb dX0_stays_16 (lv_at hl 5 rfl) ?_
  refine wk_callv (wr := [(ha, .inl (da, 8, .inl fa)), (hq, .inl (dq, 253, .inl g)), (ra, .inl (dr, 253, .inl fr)), (hm, .inl (dm, 8, .inl fm))]) (va_runV (As := [.int y, .int y]) (rest := []) ⟨hx, hb, hml, hown, hts⟩ (met_few l dC dI h0 hn hq (nI (3 + wn_u x % 4)) dn f2 H.size y y (wn_u y % 8) rfl) (cwV 2 hts (lw_V q85 q86 q87 q1 q88) rfl rfl rfl (by decide +kernel) ⟨Nat.le_of_ble_eq_true rfl, Nat.le_of_ble_eq_true rfl⟩) (wk_preV (va_recv hK hP (ci := 0) (q0 := 3) rfl rfl) (hP.sub [3, 4] rfl) (hK.sub [3] rfl) (hD.sub [3, 4] (by decide) rfl)) rfl rfl hl.1 rfl (lv_room (Nat.le_of_ble_eq_true rfl)) dX0_stays_18 ⟨Nat.le_of_ble_eq_true rfl, Nat.le_of_ble_eq_true rfl⟩) hP hD hS hA hK [3, 4] [0, 1, 2, 5] [0, 1, 2, 4] rfl rfl (by decide) (by decide) rfl (fun f3 H locs _ hP hK hD hS => ?_)
  have hP : va_P (dC, dI) vwCl [(ha, .inl (da, 8, .inl fa)), (hq, .inl (dq, 253, .inl g)), (ra, .inl (dr, 253, .inl fr)), (hm, .inl (dm, 8, .inl fm)), (h0, .inr (0, [.ref hn, .ref hq, .int (nI (3 + wn_u x % 4))])), (hn, .inl (dn, 8, .inl f3))] H := hP
  have hD : va_D A [(ha, .inl (da, 8, .inl fa)), (hq, .inl (dq, 253, .inl g)), (ra, .inl (dr, 253, .inl fr)), (hm, .inl (dm, 8, .inl fm)), (h0, .inr (0, [.ref hn, .ref hq, .int (nI (3 + wn_u x % 4))])), (hn, .inl (dn, 8, .inl f3))] := hD
  have hK : va_K (dC, dI) vwCl [(da, .int), (dq, .byte), (dr, .int), (dm, .int), (dn, .int)] s := hK
  refine lv_aload_n hx hb dX0_stays_21 rfl (lv_at hl 1 rfl) ?_
  refine wk_callr (wr := [(ha, .inl (da, 8, .inl fa)), (ra, .inl (dr, 253, .inl fr)), (hm, .inl (dm, 8, .inl fm)), (hn, .inl (dn, 8, .inl f3))]) (va_runS (As := [.ref h0]) (rest := []) ⟨hx, hb, hml, hown, hts⟩ (met_row l dC dI h0 hn hq (nI (3 + wn_u x % 4)) dq g H.size) (va_cwS 1 hts (lw_S q43 q44 q0 q45) rfl rfl rfl (by decide +kernel) ⟨Nat.le_of_ble_eq_true rfl, Nat.le_of_ble_eq_true rfl⟩) (wk_preS (hP.sub [4, 1] rfl) (hK.sub [1] rfl) (hD.sub [4, 1] (by decide) rfl)) rfl rfl hl.1 rfl (lv_room (Nat.le_of_ble_eq_true rfl)) dX0_stays_22 ⟨Nat.le_of_ble_eq_true rfl, Nat.le_of_ble_eq_true rfl⟩) hP hD hS hA hK [4, 1] [0, 2, 3, 5] [0, 2, 3, 4] rfl rfl (by decide) (by decide) rfl (fun u_ rb H locs h3 hP hK hD hS => ?_)
  obtain ⟨dr2, fr2⟩ := u_
  have hP : va_P (dC, dI) vwCl [(ha, .inl (da, 8, .inl fa)), (ra, .inl (dr, 253, .inl fr)), (hm, .inl (dm, 8, .inl fm)), (hn, .inl (dn, 8, .inl f3)), (h0, .inr (0, [.ref hn, .ref hq, .int (nI (3 + wn_u x % 4))])), (hq, .inl (dq, 253, .inl g)), (rb, .inl (dr2, 253, .inl fr2))] H := hP
  have hD : va_D A [(ha, .inl (da, 8, .inl fa)), (ra, .inl (dr, 253, .inl fr)), (hm, .inl (dm, 8, .inl fm)), (hn, .inl (dn, 8, .inl f3)), (h0, .inr (0, [.ref hn, .ref hq, .int (nI (3 + wn_u x % 4))])), (hq, .inl (dq, 253, .inl g)), (rb, .inl (dr2, 253, .inl fr2))] := hD
  have hK : va_K (dC, dI) vwCl [(da, .int), (dr, .int), (dm, .int), (dn, .int), (dq, .byte), (dr2, .int)] s := hK
  have h3 : ∀ q, q < 253 → fr2 q = g q := h3
  have gfr := wn_same p2_fr p3_fr
  refine lv_aload hx hb dX0_stays_25 (lv_at hl 0 rfl) ?_
  refine vp_callSi (va_runS (As := [.ref rb, .ref ra]) (rest := []) ⟨hx, hb, hml, hown, hts⟩ (met_same l dC dI rb ra dr2 dr fr2 fr (fun q hq9 => (h3 q hq9).trans (gfr q hq9))) (va_cwS 2 hts (lw_S q89 q90 q0 q91) rfl rfl rfl (by decide +kernel) ⟨Nat.le_of_ble_eq_true rfl, Nat.le_of_ble_eq_true rfl⟩) (wk_preSp (hP.sub [6, 1] rfl) (hK.sub [5, 1] rfl)) rfl rfl hl.1 rfl (lv_room (Nat.le_of_ble_eq_true rfl)) dX0_stays_27 ⟨Nat.le_of_ble_eq_true rfl, Nat.le_of_ble_eq_true rfl⟩).run (fun r_ hr_ => ?_)
  refine wk_top (y := nI 1) (hr_) ?_
  refine lv_if_eq (tgt := 66) hx hb dX0_stays_30 (by decide) (fun c_ => absurd c_ (by decide)) (fun _ => ?_)
  refine lv_aload_n hx hb dX0_stays_33 rfl (lv_at hl 1 rfl) ?_
  refine vp_callSi (va_runV (As := []) (rest := []) ⟨hx, hb, hml, hown, hts⟩ (met_width l dC dI h0 hn hq (nI (3 + wn_u x % 4))) (cwV 0 hts (lw_V q28 q29 q30 q1 q31) rfl rfl rfl (by decide +kernel) ⟨Nat.le_of_ble_eq_true rfl, Nat.le_of_ble_eq_true rfl⟩) (wk_preVp (va_recv hK hP (ci := 0) (q0 := 4) rfl rfl) (hP.sub [4] rfl) (hK.sub [] rfl)) rfl rfl hl.1 rfl (lv_room (Nat.le_of_ble_eq_true rfl)) dX0_stays_34 ⟨Nat.le_of_ble_eq_true rfl, Nat.le_of_ble_eq_true rfl⟩).run (fun r_ hr_ => ?_)
  refine wk_top (y := nI (3 + wn_u x % 4)) (hr_) ?_
  refine lv_iconst (v := nI 3) hx hb dX0_stays_37 (by decide) ?_
  refine lv_iload_n hx hb dX0_stays_38 rfl (lv_at hl 4 rfl) ?_
  refine lv_iconst (v := nI 3) hx hb dX0_stays_39 (by decide) ?_
  refine lv_iand hx hb dX0_stays_40 ?_
  refine lv_iadd hx hb dX0_stays_41 ?_
  refine wk_top (y := nI (3 + wn_u x % 4)) (wn_width x) ?_
  refine lv_icmp_ne (tgt := 66) hx hb dX0_stays_42 (by decide) (fun c_ => absurd (rfl) c_) (fun _ => ?_)
  refine lv_aload_n hx hb dX0_stays_45 rfl (lv_at hl 1 rfl) ?_
  refine lv_iload hx hb dX0_stays_46 (lv_at hl 5 rfl) ?_
  refine vp_callSi (va_runV (As := [.int y]) (rest := []) ⟨hx, hb, hml, hown, hts⟩ (met_digit l dC dI h0 hn hq (nI (3 + wn_u x % 4)) dq g y) (cwV 1 hts (lw_V q23 q24 q25 q1 q26) rfl rfl rfl (by decide +kernel) ⟨Nat.le_of_ble_eq_true rfl, Nat.le_of_ble_eq_true rfl⟩) (wk_preVp (va_recv hK hP (ci := 0) (q0 := 4) rfl rfl) (hP.sub [4, 5] rfl) (hK.sub [4] rfl)) rfl rfl hl.1 rfl (lv_room (Nat.le_of_ble_eq_true rfl)) dX0_stays_48 ⟨Nat.le_of_ble_eq_true rfl, Nat.le_of_ble_eq_true rfl⟩).run (fun r_ hr_ => ?_)
  refine wk_top (y := g (wn_u y % 2 ^ 31 % 253)) (hr_) ?_
  refine lv_aload hx hb dX0_stays_51 (lv_at hl 0 rfl) ?_
  refine lv_iload hx hb dX0_stays_53 (lv_at hl 5 rfl) ?_
  refine lv_ldc (v := 2147483647) hx hb hown (hts _ q92) dX0_stays_55 ?_
  refine lv_iand hx hb dX0_stays_57 ?_
  refine wk_top (y := nI (wn_u y % 2 ^ 31)) (pk_and y (m := 2147483647) 31 (by decide)) ?_
  refine lv_sipush (v := nI 253) hx hb dX0_stays_58 (by decide) ?_
  refine lv_irem hx hb dX0_stays_61 (by decide) ?_
  refine wk_top (y := nI (wn_u y % 2 ^ 31 % 253)) (pk_rem (Nat.mod_lt _ (by decide)) (by decide) (by decide)) ?_
  refine wk_iald hx hb hK hP 1 1 rfl rfl (i := (wn_u y % 2 ^ 31 % 253)) (Nat.mod_lt _ (by decide)) (by decide) dX0_stays_62 ?_
  refine lv_icmp_eq (tgt := 68) hx hb dX0_stays_63 (by decide) (fun _ => ?_) (fun c_ => absurd (gfr _ (Nat.mod_lt _ (by decide))) c_)
  refine lv_bipush (v := nI 7) hx hb dX0_stays_68 (by decide) ?_
  refine lv_istore (lv' := [(6, .int (nI 7)), (5, .ref ra), (0, .ref h0), (1, .ref ha), (2, .ref hm), (3, .int x), (4, .int y)]) hx hb dX0_stays_70 hl (by decide) rfl (fun ls hl => ?_)
  refine W.widen (k := 4) (n := 775) (by decide) (by decide) ?_
  have loop : ∀ (k : Nat) (f : Nat → Int32) (H : Heap) (locs : List Loc) (ls : Array Slot), k ≤ 8 → (∀ q, k ≤ q → q < 8 → f q = fa q) → va_P (dC, dI) vwCl [(ha, .inl (da, 8, .inl fa)), (ra, .inl (dr, 253, .inl fr)), (hm, .inl (dm, 8, .inl fm)), (hn, .inl (dn, 8, .inl f)), (h0, .inr (0, [.ref hn, .ref hq, .int (nI (3 + wn_u x % 4))])), (hq, .inl (dq, 253, .inl g)), (rb, .inl (dr2, 253, .inl fr2))] H → va_D A [(ha, .inl (da, 8, .inl fa)), (ra, .inl (dr, 253, .inl fr)), (hm, .inl (dm, 8, .inl fm)), (hn, .inl (dn, 8, .inl f)), (h0, .inr (0, [.ref hn, .ref hq, .int (nI (3 + wn_u x % 4))])), (hq, .inl (dq, 253, .inl g)), (rb, .inl (dr2, 253, .inl fr2))] → va_S A s.heap H locs → lv_has ls 7 [(0, .ref h0), (1, .ref ha), (2, .ref hm), (3, .int x), (4, .int y), (5, .ref ra), (6, .int (nI k + (-1)))] → W p l e ({ frames := 3, cells := 7, slots := 1297, locals := 75 } : Room) s m ([.ref h0, .ref ha, .ref hm, .int x, .int y] : List Value).toArray below meth c H locs 4 775 Q (F0 m 72 ls []) := by
    intro k
    induction k with
    | zero =>
      intro f H locs ls hk hfq hP hD hS hl
      refine lv_iload hx hb dX0_stays_72 (lv_at hl 6 rfl) ?_
      refine lv_if_lt (tgt := 98) hx hb dX0_stays_74 (by decide) (fun _ => ?_) (fun c_ => absurd (by decide) c_)
      refine lv_aload_n hx hb dX0_stays_98 rfl (lv_at hl 0 rfl) ?_
      refine lv_iload_n hx hb dX0_stays_99 rfl (lv_at hl 3 rfl) ?_
      refine wk_callv (wr := [(ha, .inl (da, 8, .inl fa)), (ra, .inl (dr, 253, .inl fr)), (hm, .inl (dm, 8, .inl fm)), (hq, .inl (dq, 253, .inl g)), (rb, .inl (dr2, 253, .inl fr2))]) (va_runV (As := [.int x]) (rest := []) ⟨hx, hb, hml, hown, hts⟩ (met_find l dC dI h0 hn hq (nI (3 + wn_u x % 4)) dn f H.size x N (wn_is_congr hfa (fun q hq9 => hfq q (Nat.zero_le q) hq9))) (cwV 1 hts (lw_V q57 q58 q59 q1 q60) rfl rfl rfl (by decide +kernel) ⟨Nat.le_of_ble_eq_true rfl, Nat.le_of_ble_eq_true rfl⟩) (wk_preV (va_recv hK hP (ci := 0) (q0 := 4) rfl rfl) (hP.sub [4, 3] rfl) (hK.sub [3] rfl) (hD.sub [4, 3] (by decide) rfl)) rfl rfl hl.1 rfl (lv_room (Nat.le_of_ble_eq_true rfl)) dX0_stays_100 ⟨Nat.le_of_ble_eq_true rfl, Nat.le_of_ble_eq_true rfl⟩) hP hD hS hA hK [4, 3] [0, 1, 2, 5, 6] [0, 1, 2, 4, 5] rfl rfl (by decide) (by decide) rfl (fun u_ H locs h4 hP hK hD hS => ?_)
      obtain ⟨hq3, dq3, g3⟩ := u_
      have hP : va_P (dC, dI) vwCl [(ha, .inl (da, 8, .inl fa)), (ra, .inl (dr, 253, .inl fr)), (hm, .inl (dm, 8, .inl fm)), (hq, .inl (dq, 253, .inl g)), (rb, .inl (dr2, 253, .inl fr2)), (h0, .inr (0, [.ref hn, .ref hq3, .int (nI (3 + wn_u x % 4))])), (hn, .inl (dn, 8, .inl f)), (hq3, .inl (dq3, 253, .inl g3))] H := hP
      have hD : va_D A [(ha, .inl (da, 8, .inl fa)), (ra, .inl (dr, 253, .inl fr)), (hm, .inl (dm, 8, .inl fm)), (hq, .inl (dq, 253, .inl g)), (rb, .inl (dr2, 253, .inl fr2)), (h0, .inr (0, [.ref hn, .ref hq3, .int (nI (3 + wn_u x % 4))])), (hn, .inl (dn, 8, .inl f)), (hq3, .inl (dq3, 253, .inl g3))] := hD
      have hK : va_K (dC, dI) vwCl [(da, .int), (dr, .int), (dm, .int), (dq, .byte), (dr2, .int), (dn, .int), (dq3, .byte)] s := hK
      have h4 : (∀ q, q < 253 → (g3 q).toInt = wn_dg (3 + wn_u x % 4) ((N : Nat) : Int) q) := h4
      refine lv_aload_n hx hb dX0_stays_103 rfl (lv_at hl 0 rfl) ?_
      refine wk_callr (wr := [(ha, .inl (da, 8, .inl fa)), (ra, .inl (dr, 253, .inl fr)), (hm, .inl (dm, 8, .inl fm)), (hq, .inl (dq, 253, .inl g)), (rb, .inl (dr2, 253, .inl fr2)), (hn, .inl (dn, 8, .inl f))]) (va_runS (As := [.ref h0]) (rest := []) ⟨hx, hb, hml, hown, hts⟩ (met_row l dC dI h0 hn hq3 (nI (3 + wn_u x % 4)) dq3 g3 H.size) (va_cwS 1 hts (lw_S q43 q44 q0 q45) rfl rfl rfl (by decide +kernel) ⟨Nat.le_of_ble_eq_true rfl, Nat.le_of_ble_eq_true rfl⟩) (wk_preS (hP.sub [5, 7] rfl) (hK.sub [6] rfl) (hD.sub [5, 7] (by decide) rfl)) rfl rfl hl.1 rfl (lv_room (Nat.le_of_ble_eq_true rfl)) dX0_stays_104 ⟨Nat.le_of_ble_eq_true rfl, Nat.le_of_ble_eq_true rfl⟩) hP hD hS hA hK [5, 7] [0, 1, 2, 3, 4, 6] [0, 1, 2, 3, 4, 5] rfl rfl (by decide) (by decide) rfl (fun u_ rc H locs h5 hP hK hD hS => ?_)
      obtain ⟨dr3, fr3⟩ := u_
      have hP : va_P (dC, dI) vwCl [(ha, .inl (da, 8, .inl fa)), (ra, .inl (dr, 253, .inl fr)), (hm, .inl (dm, 8, .inl fm)), (hq, .inl (dq, 253, .inl g)), (rb, .inl (dr2, 253, .inl fr2)), (hn, .inl (dn, 8, .inl f)), (h0, .inr (0, [.ref hn, .ref hq3, .int (nI (3 + wn_u x % 4))])), (hq3, .inl (dq3, 253, .inl g3)), (rc, .inl (dr3, 253, .inl fr3))] H := hP
      have hD : va_D A [(ha, .inl (da, 8, .inl fa)), (ra, .inl (dr, 253, .inl fr)), (hm, .inl (dm, 8, .inl fm)), (hq, .inl (dq, 253, .inl g)), (rb, .inl (dr2, 253, .inl fr2)), (hn, .inl (dn, 8, .inl f)), (h0, .inr (0, [.ref hn, .ref hq3, .int (nI (3 + wn_u x % 4))])), (hq3, .inl (dq3, 253, .inl g3)), (rc, .inl (dr3, 253, .inl fr3))] := hD
      have hK : va_K (dC, dI) vwCl [(da, .int), (dr, .int), (dm, .int), (dq, .byte), (dr2, .int), (dn, .int), (dq3, .byte), (dr3, .int)] s := hK
      have h5 : ∀ q, q < 253 → fr3 q = g3 q := h5
      refine lv_aload hx hb dX0_stays_107 (lv_at hl 5 rfl) ?_
      refine vp_callSi (va_runS (As := [.ref rc, .ref ra]) (rest := []) ⟨hx, hb, hml, hown, hts⟩ (met_same l dC dI rc ra dr3 dr fr3 fr (fun q hq9 => (h5 q hq9).trans (wn_same h4 p3_fr q hq9))) (va_cwS 2 hts (lw_S q89 q90 q0 q91) rfl rfl rfl (by decide +kernel) ⟨Nat.le_of_ble_eq_true rfl, Nat.le_of_ble_eq_true rfl⟩) (wk_preSp (hP.sub [8, 1] rfl) (hK.sub [7, 1] rfl)) rfl rfl hl.1 rfl (lv_room (Nat.le_of_ble_eq_true rfl)) dX0_stays_109 ⟨Nat.le_of_ble_eq_true rfl, Nat.le_of_ble_eq_true rfl⟩).run (fun r_ hr_ => ?_)
      refine wk_top (y := nI 1) (hr_) ?_
      subst hQ
      exact wk_endz (hq3, nI (3 + wn_u x % 4), f) hx hb hr rfl hlocks (hP.sub [6, 5, 0, 2] rfl) (hK.sub [5, 0, 2] rfl) (hD.sub [6, 5, 0, 2] (by decide) rfl) hS rfl (by decide) (by decide) dX0_stays_112
    | succ k ih =>
      intro f H locs ls hk hfq hP hD hS hl
      rw [pk_m1] at hl
      refine lv_iload hx hb dX0_stays_72 (lv_at hl 6 rfl) ?_
      refine lv_if_lt (tgt := 98) hx hb dX0_stays_74 (by decide) (fun c_ => absurd c_ (nI_pos (by omega))) (fun _ => ?_)
      refine lv_aload_n hx hb dX0_stays_77 rfl (lv_at hl 0 rfl) ?_
      refine lv_iload hx hb dX0_stays_78 (lv_at hl 6 rfl) ?_
      refine lv_iload hx hb dX0_stays_80 (lv_at hl 4 rfl) ?_
      refine lv_iconst (v := nI 3) hx hb dX0_stays_82 (by decide) ?_
      refine lv_ishl hx hb dX0_stays_83 ?_
      refine lv_ior hx hb dX0_stays_84 ?_
      refine lv_aload_n hx hb dX0_stays_85 rfl (lv_at hl 1 rfl) ?_
      refine lv_iload hx hb dX0_stays_86 (lv_at hl 6 rfl) ?_
      refine wk_iald hx hb hK hP 0 0 rfl rfl (i := k) (by omega) (by decide) dX0_stays_88 ?_
      refine wk_callv (wr := [(ha, .inl (da, 8, .inl fa)), (ra, .inl (dr, 253, .inl fr)), (hm, .inl (dm, 8, .inl fm)), (hq, .inl (dq, 253, .inl g)), (rb, .inl (dr2, 253, .inl fr2))]) (va_runV (As := [.int ((nI k) ||| (y <<< ((nI 3) &&& 31))), .int (fa k)]) (rest := []) ⟨hx, hb, hml, hown, hts⟩ (met_few l dC dI h0 hn hq (nI (3 + wn_u x % 4)) dn f H.size (nI k ||| (y <<< ((nI 3) &&& 31))) (fa k) k (wn_low3 (by omega) y)) (cwV 2 hts (lw_V q85 q86 q87 q1 q88) rfl rfl rfl (by decide +kernel) ⟨Nat.le_of_ble_eq_true rfl, Nat.le_of_ble_eq_true rfl⟩) (wk_preV (va_recv hK hP (ci := 0) (q0 := 4) rfl rfl) (hP.sub [4, 3] rfl) (hK.sub [3] rfl) (hD.sub [4, 3] (by decide) rfl)) rfl rfl hl.1 rfl (lv_room (Nat.le_of_ble_eq_true rfl)) dX0_stays_89 ⟨Nat.le_of_ble_eq_true rfl, Nat.le_of_ble_eq_true rfl⟩) hP hD hS hA hK [4, 3] [0, 1, 2, 5, 6] [0, 1, 2, 4, 5] rfl rfl (by decide) (by decide) rfl (fun f9 H locs hf9 hP hK hD hS => ?_)
      have hP : va_P (dC, dI) vwCl [(ha, .inl (da, 8, .inl fa)), (ra, .inl (dr, 253, .inl fr)), (hm, .inl (dm, 8, .inl fm)), (hq, .inl (dq, 253, .inl g)), (rb, .inl (dr2, 253, .inl fr2)), (h0, .inr (0, [.ref hn, .ref hq, .int (nI (3 + wn_u x % 4))])), (hn, .inl (dn, 8, .inl f9))] H := hP
      have hD : va_D A [(ha, .inl (da, 8, .inl fa)), (ra, .inl (dr, 253, .inl fr)), (hm, .inl (dm, 8, .inl fm)), (hq, .inl (dq, 253, .inl g)), (rb, .inl (dr2, 253, .inl fr2)), (h0, .inr (0, [.ref hn, .ref hq, .int (nI (3 + wn_u x % 4))])), (hn, .inl (dn, 8, .inl f9))] := hD
      have hK : va_K (dC, dI) vwCl [(da, .int), (dr, .int), (dm, .int), (dq, .byte), (dr2, .int), (dn, .int)] s := hK
      refine lv_iinc (v := nI k + (-1)) (lv' := [(6, .int (nI k + (-1))), (0, .ref h0), (1, .ref ha), (2, .ref hm), (3, .int x), (4, .int y), (5, .ref ra)]) hx hb dX0_stays_92 hl (k := 6) rfl (rfl) (by decide) rfl (fun ls hl => ?_)
      refine lv_goto (tgt := 72) hx hb dX0_stays_95 (by decide) ?_
      have hl : lv_has ls 7 [(0, .ref h0), (1, .ref ha), (2, .ref hm), (3, .int x), (4, .int y), (5, .ref ra), (6, .int (nI k + (-1)))] := lv_sub hl [1, 2, 3, 4, 5, 6, 0] rfl
      have hK : va_K (dC, dI) vwCl [(da, .int), (dr, .int), (dm, .int), (dn, .int), (dq, .byte), (dr2, .int)] s := hK.sub [0, 1, 2, 5, 3, 4] rfl
      exact ih f9 H locs ls (by omega) (wn_back (by omega) (wn_is_top hfa) hfq hf9) (hP.sub [0, 1, 2, 6, 5, 3, 4] rfl) (hD.sub [0, 1, 2, 6, 5, 3, 4] (by decide) rfl) hS hl
  have hl : lv_has ls 7 [(0, .ref h0), (1, .ref ha), (2, .ref hm), (3, .int x), (4, .int y), (5, .ref ra), (6, .int (nI 7))] := lv_sub hl [2, 3, 4, 5, 6, 1, 0] rfl
  exact loop 8 f3 H _ ls (by decide) (fun q h1 h2 => absurd h1 (by omega)) hP hD hS hl
end
section
/-! THE CLAIM OUT OF ONE WALK OF THE LAW'S BODY. Your part is whole_start (and what it stands on); all else here is the same for every law, but numbers. -/
def R_law : String := "WnafDeskLaw"
def lw_P (b : Addr) (xs : List Int32) (args : Array Value) (s : State) : Prop := args = #[.ref b] ∧ s.IntsAt b xs ∧ xs.length ≤ 24 ∧ (Jvm.Cond.and given_1 narrow_1).before args s = true
def lw_Q (_ : Array Value) (s : State) (o : Outcome) (t : State) : Prop := o = .returned (some (.int 1)) ∧ Framed s o t [] 1200000 5502250
def lw_Z (below : List Frame) (a : Array Value) (s : State) : State → Prop := fun t => ∃ o, t.status = .running ∧ Ended t below o ∧ lw_Q a s o t
/-- the law's own end, with 1 on the stack, nothing written that was there before, its room as the claim has it -/
theorem lw_ret {p : Program} {l : Launch} {e : Env} {s : State} {m : MethodId} {below : List Frame} {meth : Method} {c : Code} {b : Nat} (hx : p.tables.exec = Jvm.exec) (hb : c.code = code) (hr : meth.sig.returnType = ret) (hlocks : meth.locks = false) {pc : Nat} {H : Heap} {ls : Array Slot} (hdg : decode code pc = .ok (.ireturn, 1)) : W p l e room_1 s m #[Value.ref b] below meth c H [] 1200000 5502250 (lw_Z below #[Value.ref b] s) (F0 m pc ls [.int 1]) := by
  intro T hT X
  obtain ⟨fs, hret, hrun, hended, hW, hframe⟩ := X.leave (v := some (.int 1)) (hlocks := hlocks) (fun h => by rw [hr] at h; cases h)
  have hmeth' : T.vm.method? m = some meth := X.method'
  refine ⟨T.setFrames fs, ?_, .returned (some (.int 1)), hrun, hended, rfl, ⟨_, rfl⟩, hW, hframe⟩
  jvm_step X.here [X.here.top, hx, hb, hdg, hmeth', hr, ret, narrow_b1]
  (try refine ⟨rfl, ?_⟩); (try refine ⟨rfl, ?_⟩)
  first | (intro acts; rw [hret _ acts rfl rfl rfl]) | rw [hret _ _ rfl rfl rfl]
  exact Steps.refl _
/-- what holds at the law's entry: the machine, the code, the tables' words (any of lw_tbl by 'hts w (by decide +kernel)'), the script of L ints xs at the cell b, what the Statement gives of the start (any of its parts by flat_of_before) -/
def lw_At (p : Program) (s : State) (m : MethodId) (meth : Method) (c : Code) (b L : Nat) (xs : Nat → Int32) : Prop :=
  p.tables.exec = Jvm.exec ∧ c.code = code ∧ meth.sig.returnType = ret ∧ c.maxLocals = 9 ∧ s.vm.findClass R_law = some m.cls ∧ (∀ w ∈ lw_tbl, w.before #[Value.ref b] s = true) ∧ va_X b L xs s s.heap ∧ b < s.heap.size ∧ meth.locks = false ∧ (Jvm.Cond.and given_1 narrow_1).before #[Value.ref b] s = true
set_option maxHeartbeats 4000000 in
set_option maxRecDepth 100000 in
/-- THE LAW, from its entry: it comes to its end with true -/
theorem whole_start {p : Program} {e : Env} {s : State} {m : MethodId} {below : List Frame} {meth : Method} {c : Code} (l : Launch) (hflags : l.flags = flags0) {b L : Nat} {xs : Nat → Int32} (hL : L ≤ 24) (C0 : lw_At p s m meth c b L xs) : W p l e room_1 s m #[Value.ref b] below meth c s.heap [] 0 0 (lw_Z below #[Value.ref b] s) (entryFrame m ([Value.ref b] : List Value).toArray 9) := by
  obtain ⟨hx, hb, hr, hml, hown, hts0, hX, hbl, hlocks, hgv⟩ := C0
  have hts : ∀ w ∈ lw_all, w.before #[Value.ref b] s = true := fun w h => hts0 w (lw_all_tbl h)
  have hown : s.vm.findClass RX0 = some m.cls := hown
  obtain ⟨cD, iS, hKn⟩ := u_known (C := RX1) (T := TX1) (N := 3) (n := 3) hts0 (fun w h => lw_all_tbl (in_X1 w h)) (hts0 _ (lw_all_tbl q4))
  obtain ⟨dC, dI, hKc⟩ : ∃ (dC : Nat → ClassId) (dI : Nat → Nat → Nat), ∀ (k : Nat) (q : vw_C), vwCl[k]? = some q → u_Kn s q.1 q.2.1 q.2.2 (dC k) (dI k) := by
    refine ⟨fun _ => cD, fun _ => iS, ?_⟩
    intro k q hq
    match k, hq with
    | 0, hq => cases hq; exact hKn
    | k + 1, hq => simp [vwCl] at hq
  obtain ⟨A, hAe⟩ : ∃ A : Nat → Prop, A = fun q => s.heap.size ≤ q := ⟨_, rfl⟩
  have hA : ∀ q : Nat, s.heap.size ≤ q → A q := fun q h => by rw [hAe]; exact h
  have hA2 : ∀ q : Nat, A q → s.heap.size ≤ q := fun q h => by rw [hAe] at h; exact h
  have hbA : ¬ A b := fun h => Nat.not_le.mpr hbl (hA2 b h)
  have hS : va_S A s.heap s.heap [] := va_S.rf
  have hK : va_K (dC, dI) vwCl [] s := ⟨hKc, fun k q h => by simp at h⟩
  have hP : va_P (dC, dI) vwCl [] s.heap := wn_P0
  have hD : va_D A [] := wn_D0
  have hl := lv_entry ([.ref b] : List Value) (n := 9) (Nat.le_of_ble_eq_true rfl)
  rw [lg_entry_eq]
  generalize (lg_sl ([.ref b] : List Value) ++ List.replicate (9 - (lg_sl ([.ref b] : List Value)).length) Slot.unset).toArray = ls at hl ⊢
  have hl : lv_has ls 9 [(0, .ref b)] := hl
  refine va_new (ci := 0) (fs := [.null, .null, .int 0]) (C := RX1) (T := TX1) (N := 3) hx hb hts in_X1 tyX1 tyX1_ok hown (hts _ q3) (hts _ q4) (hts _ q1) hK hP hD hS hA rfl (fun j hj => by rcases (show j = 0 ∨ j = 1 ∨ j = 2 by omega) with rfl | rfl | rfl <;> rfl) (Nat.le_of_ble_eq_true rfl) (Nat.le_of_ble_eq_true rfl) dL_law_0 (fun h0 H hP hD hS => ?_)
  have hP : va_P (dC, dI) vwCl [(h0, .inr (0, [.null, .null, .int 0]))] H := hP
  have hD : va_D A [(h0, .inr (0, [.null, .null, .int 0]))] := hD
  refine lv_dup hx hb dL_law_3 rfl ?_
  refine wk_callv (wr := []) (va_runI (As := []) (rest := [.ref h0]) ⟨hx, hb, hml, hown, hts⟩ (met_init l dC dI h0 H.size) (cwI 0 hts (lw_meth q7) rfl rfl rfl (hts _ q1) (hts _ q5) (hts _ q6) rfl (by decide +kernel) ⟨Nat.le_of_ble_eq_true rfl, Nat.le_of_ble_eq_true rfl⟩) (wk_preS (hP.sub [0] rfl) (hK.sub [] rfl) (hD.sub [0] (by decide) rfl)) rfl rfl hl.1 rfl (lv_room (Nat.le_of_ble_eq_true rfl)) dL_law_4 ⟨Nat.le_of_ble_eq_true rfl, Nat.le_of_ble_eq_true rfl⟩) hP hD hS hA hK [0] [] [] rfl rfl (by decide) (by decide) rfl (fun u_ H locs _ hP hK hD hS => ?_)
  obtain ⟨hn, dn, hd, c2⟩ := u_
  have hP : va_P (dC, dI) vwCl [(h0, .inr (0, [.ref hn, .ref hd, .int (nI 4)])), (hn, .inl (dn, 8, .inl (fun _ => 0))), (hd, .inl (c2, 253, .inl (fun _ => 0)))] H := hP
  have hD : va_D A [(h0, .inr (0, [.ref hn, .ref hd, .int (nI 4)])), (hn, .inl (dn, 8, .inl (fun _ => 0))), (hd, .inl (c2, 253, .inl (fun _ => 0)))] := hD
  have hK : va_K (dC, dI) vwCl [(dn, .int), (c2, .byte)] s := hK
  refine lv_astore_n (lv' := [(1, .ref h0), (0, .ref b)]) hx hb dL_law_7 rfl hl (by decide) rfl (fun ls hl => ?_)
  refine lv_aload_n hx hb dL_law_8 rfl (lv_at hl 1 rfl) ?_
  refine lv_iconst (v := nI 0) hx hb dL_law_9 (by decide) ?_
  refine wk_callr (wr := [(h0, .inr (0, [.ref hn, .ref hd, .int (nI 4)])), (hn, .inl (dn, 8, .inl (fun _ => 0))), (hd, .inl (c2, 253, .inl (fun _ => 0)))]) (va_runS (As := [.ref b, .int (nI 0)]) (rest := []) ⟨hx, hb, hml, hown, hts⟩ (met_number l dC dI b L xs 0 hL (by decide) H.size) (va_cwS 2 hts (lw_S q35 q36 q0 q37) rfl rfl rfl (by decide +kernel) ⟨Nat.le_of_ble_eq_true rfl, Nat.le_of_ble_eq_true rfl⟩) (wk_preSX (hX.kept (hS.2.1 b hbl hbA)) (hK.sub [] rfl)) rfl rfl hl.1 rfl (lv_room (Nat.le_of_ble_eq_true rfl)) dL_law_10 ⟨Nat.le_of_ble_eq_true rfl, Nat.le_of_ble_eq_true rfl⟩) hP hD hS hA hK [] [0, 1, 2] [0, 1] rfl rfl (by decide) (by decide) rfl (fun u_ ha H locs h7a hP hK hD hS => ?_)
  obtain ⟨da, fa⟩ := u_
  have hP : va_P (dC, dI) vwCl [(h0, .inr (0, [.ref hn, .ref hd, .int (nI 4)])), (hn, .inl (dn, 8, .inl (fun _ => 0))), (hd, .inl (c2, 253, .inl (fun _ => 0))), (ha, .inl (da, 8, .inl fa))] H := hP
  have hD : va_D A [(h0, .inr (0, [.ref hn, .ref hd, .int (nI 4)])), (hn, .inl (dn, 8, .inl (fun _ => 0))), (hd, .inl (c2, 253, .inl (fun _ => 0))), (ha, .inl (da, 8, .inl fa))] := hD
  have hK : va_K (dC, dI) vwCl [(dn, .int), (c2, .byte), (da, .int)] s := hK
  obtain ⟨N, hlN, hfa⟩ := wn_is_of fa h7a
  refine lv_astore_n (lv' := [(2, .ref ha), (1, .ref h0), (0, .ref b)]) hx hb dL_law_13 rfl hl (by decide) rfl (fun ls hl => ?_)
  refine lv_aload_n hx hb dL_law_14 rfl (lv_at hl 2 rfl) ?_
  refine lv_bipush (v := nI 9) hx hb dL_law_15 (by decide) ?_
  refine wk_callr (wr := [(h0, .inr (0, [.ref hn, .ref hd, .int (nI 4)])), (hn, .inl (dn, 8, .inl (fun _ => 0))), (hd, .inl (c2, 253, .inl (fun _ => 0))), (ha, .inl (da, 8, .inl fa))]) (va_runS (As := [.ref b, .int (nI 9)]) (rest := []) ⟨hx, hb, hml, hown, hts⟩ (met_number l dC dI b L xs 9 hL (by decide) H.size) (va_cwS 2 hts (lw_S q35 q36 q0 q37) rfl rfl rfl (by decide +kernel) ⟨Nat.le_of_ble_eq_true rfl, Nat.le_of_ble_eq_true rfl⟩) (wk_preSX (hX.kept (hS.2.1 b hbl hbA)) (hK.sub [] rfl)) rfl rfl hl.1 rfl (lv_room (Nat.le_of_ble_eq_true rfl)) dL_law_17 ⟨Nat.le_of_ble_eq_true rfl, Nat.le_of_ble_eq_true rfl⟩) hP hD hS hA hK [] [0, 1, 2, 3] [0, 1, 2] rfl rfl (by decide) (by decide) rfl (fun u_ hm H locs h7m hP hK hD hS => ?_)
  obtain ⟨dm, fm⟩ := u_
  have hP : va_P (dC, dI) vwCl [(h0, .inr (0, [.ref hn, .ref hd, .int (nI 4)])), (hn, .inl (dn, 8, .inl (fun _ => 0))), (hd, .inl (c2, 253, .inl (fun _ => 0))), (ha, .inl (da, 8, .inl fa)), (hm, .inl (dm, 8, .inl fm))] H := hP
  have hD : va_D A [(h0, .inr (0, [.ref hn, .ref hd, .int (nI 4)])), (hn, .inl (dn, 8, .inl (fun _ => 0))), (hd, .inl (c2, 253, .inl (fun _ => 0))), (ha, .inl (da, 8, .inl fa)), (hm, .inl (dm, 8, .inl fm))] := hD
  have hK : va_K (dC, dI) vwCl [(dn, .int), (c2, .byte), (da, .int), (dm, .int)] s := hK
  obtain ⟨M, hlM, hfm⟩ := wn_is_of fm h7m
  refine lv_astore_n (lv' := [(3, .ref hm), (2, .ref ha), (1, .ref h0), (0, .ref b)]) hx hb dL_law_20 rfl hl (by decide) rfl (fun ls hl => ?_)
  refine lv_aload_n hx hb dL_law_21 rfl (lv_at hl 1 rfl) ?_
  refine lv_aload_n hx hb dL_law_22 rfl (lv_at hl 0 rfl) ?_
  refine wk_callr (wr := [(h0, .inr (0, [.ref hn, .ref hd, .int (nI 4)])), (hn, .inl (dn, 8, .inl (fun _ => 0))), (hd, .inl (c2, 253, .inl (fun _ => 0))), (ha, .inl (da, 8, .inl fa)), (hm, .inl (dm, 8, .inl fm))]) (va_runS (As := [.ref ha, .ref hm]) (rest := []) ⟨hx, hb, hml, hown, hts⟩ (met_sum l dC dI ha hm da dm fa fm N M hfa hfm (by omega) H.size) (va_cwS 2 hts (lw_S q39 q40 q0 q41) rfl rfl rfl (by decide +kernel) ⟨Nat.le_of_ble_eq_true rfl, Nat.le_of_ble_eq_true rfl⟩) (wk_preSR (hP.sub [3, 4] rfl) (hK.sub [2, 3] rfl)) rfl rfl hl.1 rfl (lv_room (Nat.le_of_ble_eq_true rfl)) dL_law_23 ⟨Nat.le_of_ble_eq_true rfl, Nat.le_of_ble_eq_true rfl⟩) hP hD hS hA hK [] [0, 1, 2, 3, 4] [0, 1, 2, 3] rfl rfl (by decide) (by decide) rfl (fun u_ hz H locs hfz hP hK hD hS => ?_)
  obtain ⟨dz, fz⟩ := u_
  have hP : va_P (dC, dI) vwCl [(h0, .inr (0, [.ref hn, .ref hd, .int (nI 4)])), (hn, .inl (dn, 8, .inl (fun _ => 0))), (hd, .inl (c2, 253, .inl (fun _ => 0))), (ha, .inl (da, 8, .inl fa)), (hm, .inl (dm, 8, .inl fm)), (hz, .inl (dz, 8, .inl fz))] H := hP
  have hD : va_D A [(h0, .inr (0, [.ref hn, .ref hd, .int (nI 4)])), (hn, .inl (dn, 8, .inl (fun _ => 0))), (hd, .inl (c2, 253, .inl (fun _ => 0))), (ha, .inl (da, 8, .inl fa)), (hm, .inl (dm, 8, .inl fm)), (hz, .inl (dz, 8, .inl fz))] := hD
  have hK : va_K (dC, dI) vwCl [(dn, .int), (c2, .byte), (da, .int), (dm, .int), (dz, .int)] s := hK
  have hfz : wn_is fz (N + M) := hfz
  refine lv_astore (lv' := [(4, .ref hz), (3, .ref hm), (2, .ref ha), (1, .ref h0), (0, .ref b)]) hx hb dL_law_26 hl (by decide) rfl (fun ls hl => ?_)
  refine lv_aload_n hx hb dL_law_28 rfl (lv_at hl 4 rfl) ?_
  refine lv_bipush (v := nI 18) hx hb dL_law_29 (by decide) ?_
  refine vp_callSi (va_runS (As := [.ref b, .int (nI 18)]) (rest := []) ⟨hx, hb, hml, hown, hts⟩ (met_cell l b L xs 18 hL (by decide)) (va_cwS 2 hts (lw_S q32 q33 q0 q34) rfl rfl rfl (by decide +kernel) ⟨Nat.le_of_ble_eq_true rfl, Nat.le_of_ble_eq_true rfl⟩) (wn_preX (hX.kept (hS.2.1 b hbl hbA))) rfl rfl hl.1 rfl (lv_room (Nat.le_of_ble_eq_true rfl)) dL_law_31 ⟨Nat.le_of_ble_eq_true rfl, Nat.le_of_ble_eq_true rfl⟩).run (fun x _ => ?_)
  refine lv_istore (lv' := [(5, .int x), (4, .ref hz), (3, .ref hm), (2, .ref ha), (1, .ref h0), (0, .ref b)]) hx hb dL_law_34 hl (by decide) rfl (fun ls hl => ?_)
  refine lv_aload_n hx hb dL_law_36 rfl (lv_at hl 5 rfl) ?_
  refine lv_bipush (v := nI 19) hx hb dL_law_37 (by decide) ?_
  refine vp_callSi (va_runS (As := [.ref b, .int (nI 19)]) (rest := []) ⟨hx, hb, hml, hown, hts⟩ (met_cell l b L xs 19 hL (by decide)) (va_cwS 2 hts (lw_S q32 q33 q0 q34) rfl rfl rfl (by decide +kernel) ⟨Nat.le_of_ble_eq_true rfl, Nat.le_of_ble_eq_true rfl⟩) (wn_preX (hX.kept (hS.2.1 b hbl hbA))) rfl rfl hl.1 rfl (lv_room (Nat.le_of_ble_eq_true rfl)) dL_law_39 ⟨Nat.le_of_ble_eq_true rfl, Nat.le_of_ble_eq_true rfl⟩).run (fun y _ => ?_)
  refine lv_istore (lv' := [(6, .int y), (5, .int x), (4, .ref hz), (3, .ref hm), (2, .ref ha), (1, .ref h0), (0, .ref b)]) hx hb dL_law_42 hl (by decide) rfl (fun ls hl => ?_)
  refine lv_aload_n hx hb dL_law_44 rfl (lv_at hl 5 rfl) ?_
  refine vp_callSi (va_runV (As := []) (rest := []) ⟨hx, hb, hml, hown, hts⟩ (met_width l dC dI h0 hn hd (nI 4)) (cwV 0 hts (lw_V q28 q29 q30 q1 q31) rfl rfl rfl (by decide +kernel) ⟨Nat.le_of_ble_eq_true rfl, Nat.le_of_ble_eq_true rfl⟩) (wk_preVp (va_recv hK hP (ci := 0) (q0 := 0) rfl rfl) (hP.sub [0] rfl) (hK.sub [] rfl)) rfl rfl hl.1 rfl (lv_room (Nat.le_of_ble_eq_true rfl)) dL_law_45 ⟨Nat.le_of_ble_eq_true rfl, Nat.le_of_ble_eq_true rfl⟩).run (fun r_ hr_ => ?_)
  refine wk_top (y := nI 4) (hr_) ?_
  refine lv_iconst (v := nI 4) hx hb dL_law_48 (by decide) ?_
  refine lv_icmp_ne (tgt := 71) hx hb dL_law_49 (by decide) (fun c_ => absurd (rfl) c_) (fun _ => ?_)
  refine lv_aload_n hx hb dL_law_52 rfl (lv_at hl 5 rfl) ?_
  refine lv_iload hx hb dL_law_53 (lv_at hl 0 rfl) ?_
  refine vp_callSi (va_runV (As := [.int y]) (rest := []) ⟨hx, hb, hml, hown, hts⟩ (met_digit l dC dI h0 hn hd (nI 4) c2 (fun _ => 0) y) (cwV 1 hts (lw_V q23 q24 q25 q1 q26) rfl rfl rfl (by decide +kernel) ⟨Nat.le_of_ble_eq_true rfl, Nat.le_of_ble_eq_true rfl⟩) (wk_preVp (va_recv hK hP (ci := 0) (q0 := 0) rfl rfl) (hP.sub [0, 2] rfl) (hK.sub [1] rfl)) rfl rfl hl.1 rfl (lv_room (Nat.le_of_ble_eq_true rfl)) dL_law_55 ⟨Nat.le_of_ble_eq_true rfl, Nat.le_of_ble_eq_true rfl⟩).run (fun r_ hr_ => ?_)
  refine lv_if_ne (tgt := 71) hx hb dL_law_58 (by decide) (fun c_ => absurd (hr_) c_) (fun _ => ?_)
  refine lv_aload_n hx hb dL_law_61 rfl (lv_at hl 5 rfl) ?_
  refine wk_callr (wr := [(hn, .inl (dn, 8, .inl (fun _ => 0))), (ha, .inl (da, 8, .inl fa)), (hm, .inl (dm, 8, .inl fm)), (hz, .inl (dz, 8, .inl fz))]) (va_runS (As := [.ref h0]) (rest := []) ⟨hx, hb, hml, hown, hts⟩ (met_row l dC dI h0 hn hd (nI 4) c2 (fun _ => 0) H.size) (va_cwS 1 hts (lw_S q43 q44 q0 q45) rfl rfl rfl (by decide +kernel) ⟨Nat.le_of_ble_eq_true rfl, Nat.le_of_ble_eq_true rfl⟩) (wk_preS (hP.sub [0, 2] rfl) (hK.sub [1] rfl) (hD.sub [0, 2] (by decide) rfl)) rfl rfl hl.1 rfl (lv_room (Nat.le_of_ble_eq_true rfl)) dL_law_62 ⟨Nat.le_of_ble_eq_true rfl, Nat.le_of_ble_eq_true rfl⟩) hP hD hS hA hK [0, 2] [1, 3, 4, 5] [0, 2, 3, 4] rfl rfl (by decide) (by decide) rfl (fun u_ r0 H locs h0r hP hK hD hS => ?_)
  obtain ⟨d0, f0⟩ := u_
  have hP : va_P (dC, dI) vwCl [(hn, .inl (dn, 8, .inl (fun _ => 0))), (ha, .inl (da, 8, .inl fa)), (hm, .inl (dm, 8, .inl fm)), (hz, .inl (dz, 8, .inl fz)), (h0, .inr (0, [.ref hn, .ref hd, .int (nI 4)])), (hd, .inl (c2, 253, .inl (fun _ => 0))), (r0, .inl (d0, 253, .inl f0))] H := hP
  have hD : va_D A [(hn, .inl (dn, 8, .inl (fun _ => 0))), (ha, .inl (da, 8, .inl fa)), (hm, .inl (dm, 8, .inl fm)), (hz, .inl (dz, 8, .inl fz)), (h0, .inr (0, [.ref hn, .ref hd, .int (nI 4)])), (hd, .inl (c2, 253, .inl (fun _ => 0))), (r0, .inl (d0, 253, .inl f0))] := hD
  have hK : va_K (dC, dI) vwCl [(dn, .int), (da, .int), (dm, .int), (dz, .int), (c2, .byte), (d0, .int)] s := hK
  refine vp_callSi (va_runS (As := [.ref r0]) (rest := []) ⟨hx, hb, hml, hown, hts⟩ (met_many l dC dI r0 d0 f0) (va_cwS 1 hts (lw_S q64 q65 q0 q66) rfl rfl rfl (by decide +kernel) ⟨Nat.le_of_ble_eq_true rfl, Nat.le_of_ble_eq_true rfl⟩) (wk_preSp (hP.sub [6] rfl) (hK.sub [5] rfl)) rfl rfl hl.1 rfl (lv_room (Nat.le_of_ble_eq_true rfl)) dL_law_65 ⟨Nat.le_of_ble_eq_true rfl, Nat.le_of_ble_eq_true rfl⟩).run (fun r_ hr_ => ?_)
  refine lv_if_eq (tgt := 73) hx hb dL_law_68 (by decide) (fun _ => ?_) (fun c_ => absurd (by rw [hr_, wn_cn_0 253 h0r]; decide) c_)
  have hN2 : N < 2 ^ 252 := Nat.lt_trans hlN (by decide)
  refine lv_aload_n hx hb dL_law_73 rfl (lv_at hl 5 rfl) ?_
  refine lv_aload_n hx hb dL_law_74 rfl (lv_at hl 4 rfl) ?_
  refine lv_iload hx hb dL_law_75 (lv_at hl 0 rfl) ?_
  refine wk_calli (wr := [(hm, .inl (dm, 8, .inl fm)), (hz, .inl (dz, 8, .inl fz)), (hd, .inl (c2, 253, .inl (fun _ => 0))), (r0, .inl (d0, 253, .inl f0))]) (va_runS (As := [.ref h0, .ref ha, .int y]) (rest := []) ⟨hx, hb, hml, hown, hts⟩ (met_widths l dC dI h0 hn hd ha (nI 4) dn da (fun _ => 0) fa H.size y N hfa hlN) (va_cwS 3 hts (lw_S q76 q77 q0 q78) rfl rfl rfl (by decide +kernel) ⟨Nat.le_of_ble_eq_true rfl, Nat.le_of_ble_eq_true rfl⟩) (wk_preS (hP.sub [4, 0, 1] rfl) (hK.sub [0, 1] rfl) (hD.sub [4, 0, 1] (by decide) rfl)) rfl rfl hl.1 rfl (lv_room (Nat.le_of_ble_eq_true rfl)) dL_law_77 ⟨Nat.le_of_ble_eq_true rfl, Nat.le_of_ble_eq_true rfl⟩) hP hD hS hA hK [4, 0, 1] [2, 3, 5, 6] [2, 3, 4, 5] rfl rfl (by decide) (by decide) rfl (fun r_ u_ H locs hr_ hP hK hD hS => ?_)
  obtain ⟨hd1, wv1, f1⟩ := u_
  have hP : va_P (dC, dI) vwCl [(hm, .inl (dm, 8, .inl fm)), (hz, .inl (dz, 8, .inl fz)), (hd, .inl (c2, 253, .inl (fun _ => 0))), (r0, .inl (d0, 253, .inl f0)), (h0, .inr (0, [.ref hn, .ref hd1, .int wv1])), (hn, .inl (dn, 8, .inl f1)), (ha, .inl (da, 8, .inl fa))] H := hP
  have hD : va_D A [(hm, .inl (dm, 8, .inl fm)), (hz, .inl (dz, 8, .inl fz)), (hd, .inl (c2, 253, .inl (fun _ => 0))), (r0, .inl (d0, 253, .inl f0)), (h0, .inr (0, [.ref hn, .ref hd1, .int wv1])), (hn, .inl (dn, 8, .inl f1)), (ha, .inl (da, 8, .inl fa))] := hD
  have hK : va_K (dC, dI) vwCl [(dm, .int), (dz, .int), (c2, .byte), (d0, .int), (dn, .int), (da, .int)] s := hK
  refine wk_top (y := nI 1) (hr_) ?_
  refine lv_if_eq (tgt := 106) hx hb dL_law_80 (by decide) (fun c_ => absurd c_ (by decide)) (fun _ => ?_)
  refine lv_aload_n hx hb dL_law_83 rfl (lv_at hl 5 rfl) ?_
  refine lv_aload_n hx hb dL_law_84 rfl (lv_at hl 3 rfl) ?_
  refine lv_iload hx hb dL_law_85 (lv_at hl 1 rfl) ?_
  refine wk_calli (wr := [(hz, .inl (dz, 8, .inl fz)), (hd, .inl (c2, 253, .inl (fun _ => 0))), (r0, .inl (d0, 253, .inl f0)), (ha, .inl (da, 8, .inl fa))]) (va_runS (As := [.ref h0, .ref hm, .int x]) (rest := []) ⟨hx, hb, hml, hown, hts⟩ (met_widths l dC dI h0 hn hd1 hm wv1 dn dm f1 fm H.size x M hfm hlM) (va_cwS 3 hts (lw_S q76 q77 q0 q78) rfl rfl rfl (by decide +kernel) ⟨Nat.le_of_ble_eq_true rfl, Nat.le_of_ble_eq_true rfl⟩) (wk_preS (hP.sub [4, 5, 0] rfl) (hK.sub [4, 0] rfl) (hD.sub [4, 5, 0] (by decide) rfl)) rfl rfl hl.1 rfl (lv_room (Nat.le_of_ble_eq_true rfl)) dL_law_87 ⟨Nat.le_of_ble_eq_true rfl, Nat.le_of_ble_eq_true rfl⟩) hP hD hS hA hK [4, 5, 0] [1, 2, 3, 6] [1, 2, 3, 5] rfl rfl (by decide) (by decide) rfl (fun r_ u_ H locs hr_ hP hK hD hS => ?_)
  obtain ⟨hd2, wv2, f2⟩ := u_
  have hP : va_P (dC, dI) vwCl [(hz, .inl (dz, 8, .inl fz)), (hd, .inl (c2, 253, .inl (fun _ => 0))), (r0, .inl (d0, 253, .inl f0)), (ha, .inl (da, 8, .inl fa)), (h0, .inr (0, [.ref hn, .ref hd2, .int wv2])), (hn, .inl (dn, 8, .inl f2)), (hm, .inl (dm, 8, .inl fm))] H := hP
  have hD : va_D A [(hz, .inl (dz, 8, .inl fz)), (hd, .inl (c2, 253, .inl (fun _ => 0))), (r0, .inl (d0, 253, .inl f0)), (ha, .inl (da, 8, .inl fa)), (h0, .inr (0, [.ref hn, .ref hd2, .int wv2])), (hn, .inl (dn, 8, .inl f2)), (hm, .inl (dm, 8, .inl fm))] := hD
  have hK : va_K (dC, dI) vwCl [(dz, .int), (c2, .byte), (d0, .int), (da, .int), (dn, .int), (dm, .int)] s := hK
  refine wk_top (y := nI 1) (hr_) ?_
  refine lv_if_eq (tgt := 106) hx hb dL_law_90 (by decide) (fun c_ => absurd c_ (by decide)) (fun _ => ?_)
  refine lv_aload_n hx hb dL_law_93 rfl (lv_at hl 5 rfl) ?_
  refine lv_aload_n hx hb dL_law_94 rfl (lv_at hl 4 rfl) ?_
  refine lv_aload_n hx hb dL_law_95 rfl (lv_at hl 3 rfl) ?_
  refine lv_iload hx hb dL_law_96 (lv_at hl 1 rfl) ?_
  refine lv_iload hx hb dL_law_98 (lv_at hl 0 rfl) ?_
  refine wk_calli (wr := [(hz, .inl (dz, 8, .inl fz)), (hd, .inl (c2, 253, .inl (fun _ => 0))), (r0, .inl (d0, 253, .inl f0))]) (va_runS (As := [.ref h0, .ref ha, .ref hm, .int x, .int y]) (rest := []) ⟨hx, hb, hml, hown, hts⟩ (met_stays l dC dI h0 hn hd2 ha hm wv2 dn da dm f2 fa fm H.size x y N M hfa hfm) (va_cwS 5 hts (lw_S q82 q83 q0 q84) rfl rfl rfl (by decide +kernel) ⟨Nat.le_of_ble_eq_true rfl, Nat.le_of_ble_eq_true rfl⟩) (wk_preS (hP.sub [4, 5, 3, 6] rfl) (hK.sub [4, 3, 5] rfl) (hD.sub [4, 5, 3, 6] (by decide) rfl)) rfl rfl hl.1 rfl (lv_room (Nat.le_of_ble_eq_true rfl)) dL_law_100 ⟨Nat.le_of_ble_eq_true rfl, Nat.le_of_ble_eq_true rfl⟩) hP hD hS hA hK [4, 5, 3, 6] [0, 1, 2] [0, 1, 2] rfl rfl (by decide) (by decide) rfl (fun r_ u_ H locs hr_ hP hK hD hS => ?_)
  obtain ⟨hd3, wv3, f3⟩ := u_
  have hP : va_P (dC, dI) vwCl [(hz, .inl (dz, 8, .inl fz)), (hd, .inl (c2, 253, .inl (fun _ => 0))), (r0, .inl (d0, 253, .inl f0)), (h0, .inr (0, [.ref hn, .ref hd3, .int wv3])), (hn, .inl (dn, 8, .inl f3)), (ha, .inl (da, 8, .inl fa)), (hm, .inl (dm, 8, .inl fm))] H := hP
  have hD : va_D A [(hz, .inl (dz, 8, .inl fz)), (hd, .inl (c2, 253, .inl (fun _ => 0))), (r0, .inl (d0, 253, .inl f0)), (h0, .inr (0, [.ref hn, .ref hd3, .int wv3])), (hn, .inl (dn, 8, .inl f3)), (ha, .inl (da, 8, .inl fa)), (hm, .inl (dm, 8, .inl fm))] := hD
  have hK : va_K (dC, dI) vwCl [(dz, .int), (c2, .byte), (d0, .int), (dn, .int), (da, .int), (dm, .int)] s := hK
  refine wk_top (y := nI 1) (hr_) ?_
  refine lv_if_ne (tgt := 108) hx hb dL_law_103 (by decide) (fun _ => ?_) (fun c_ => absurd c_ (by decide))
  have hok : wn_ok (3 + wn_u x % 4) := wn_ok_of _
  refine lv_iconst (v := nI 3) hx hb dL_law_108 (by decide) ?_
  refine lv_iload hx hb dL_law_109 (lv_at hl 1 rfl) ?_
  refine lv_iconst (v := nI 3) hx hb dL_law_111 (by decide) ?_
  refine lv_iand hx hb dL_law_112 ?_
  refine lv_iadd hx hb dL_law_113 ?_
  refine wk_top (y := nI (3 + wn_u x % 4)) (wn_width x) ?_
  refine lv_istore (lv' := [(7, .int (nI (3 + wn_u x % 4))), (6, .int y), (5, .int x), (4, .ref hz), (3, .ref hm), (2, .ref ha), (1, .ref h0), (0, .ref b)]) hx hb dL_law_114 hl (by decide) rfl (fun ls hl => ?_)
  refine lv_aload_n hx hb dL_law_116 rfl (lv_at hl 6 rfl) ?_
  refine lv_aload hx hb dL_law_117 (lv_at hl 3 rfl) ?_
  refine lv_iload hx hb dL_law_119 (lv_at hl 2 rfl) ?_
  refine wk_callr (wr := [(hd, .inl (c2, 253, .inl (fun _ => 0))), (r0, .inl (d0, 253, .inl f0)), (ha, .inl (da, 8, .inl fa)), (hm, .inl (dm, 8, .inl fm))]) (va_runS (As := [.ref h0, .ref hz, .int x]) (rest := []) ⟨hx, hb, hml, hown, hts⟩ (met_found l dC dI h0 hn hd3 hz wv3 dn dz f3 fz H.size x (N + M) hfz) (va_cwS 3 hts (lw_S q46 q47 q0 q48) rfl rfl rfl (by decide +kernel) ⟨Nat.le_of_ble_eq_true rfl, Nat.le_of_ble_eq_true rfl⟩) (wk_preS (hP.sub [3, 4, 0] rfl) (hK.sub [3, 0] rfl) (hD.sub [3, 4, 0] (by decide) rfl)) rfl rfl hl.1 rfl (lv_room (Nat.le_of_ble_eq_true rfl)) dL_law_121 ⟨Nat.le_of_ble_eq_true rfl, Nat.le_of_ble_eq_true rfl⟩) hP hD hS hA hK [3, 4, 0] [1, 2, 5, 6] [1, 2, 4, 5] rfl rfl (by decide) (by decide) rfl (fun u_ ra H locs ⟨p1_fr, p2_fr, p3_fr⟩ hP hK hD hS => ?_)
  obtain ⟨hq4, dq4, g4, f4, dr, fr⟩ := u_
  have hP : va_P (dC, dI) vwCl [(hd, .inl (c2, 253, .inl (fun _ => 0))), (r0, .inl (d0, 253, .inl f0)), (ha, .inl (da, 8, .inl fa)), (hm, .inl (dm, 8, .inl fm)), (h0, .inr (0, [.ref hn, .ref hq4, .int (nI (3 + wn_u x % 4))])), (hn, .inl (dn, 8, .inl f4)), (hz, .inl (dz, 8, .inl fz)), (hq4, .inl (dq4, 253, .inl g4)), (ra, .inl (dr, 253, .inl fr))] H := hP
  have hD : va_D A [(hd, .inl (c2, 253, .inl (fun _ => 0))), (r0, .inl (d0, 253, .inl f0)), (ha, .inl (da, 8, .inl fa)), (hm, .inl (dm, 8, .inl fm)), (h0, .inr (0, [.ref hn, .ref hq4, .int (nI (3 + wn_u x % 4))])), (hn, .inl (dn, 8, .inl f4)), (hz, .inl (dz, 8, .inl fz)), (hq4, .inl (dq4, 253, .inl g4)), (ra, .inl (dr, 253, .inl fr))] := hD
  have hK : va_K (dC, dI) vwCl [(c2, .byte), (d0, .int), (da, .int), (dm, .int), (dn, .int), (dz, .int), (dq4, .byte), (dr, .int)] s := hK
  have p1_fr : ∀ k, k < 8 → f4 k = fz k := p1_fr
  have p2_fr : (∀ q, q < 253 → (g4 q).toInt = wn_dg (3 + wn_u x % 4) (((N + M) : Nat) : Int) q) := p2_fr
  have p3_fr : (∀ q, q < 253 → (fr q).toInt = wn_dg (3 + wn_u x % 4) (((N + M) : Nat) : Int) q) := p3_fr
  refine lv_astore (lv' := [(8, .ref ra), (7, .int (nI (3 + wn_u x % 4))), (6, .int y), (5, .int x), (4, .ref hz), (3, .ref hm), (2, .ref ha), (1, .ref h0), (0, .ref b)]) hx hb dL_law_124 hl (by decide) rfl (fun ls hl => ?_)
  refine lv_aload hx hb dL_law_126 (lv_at hl 0 rfl) ?_
  refine lv_iload hx hb dL_law_128 (lv_at hl 1 rfl) ?_
  refine vp_callSi (va_runS (As := [.ref ra, .int (nI (3 + wn_u x % 4))]) (rest := []) ⟨hx, hb, hml, hown, hts⟩ (met_isForm l dC dI ra dr fr (3 + wn_u x % 4) (((N + M) : Nat) : Int) hok p3_fr) (va_cwS 2 hts (lw_S q73 q74 q0 q75) rfl rfl rfl (by decide +kernel) ⟨Nat.le_of_ble_eq_true rfl, Nat.le_of_ble_eq_true rfl⟩) (wk_preSp (hP.sub [8] rfl) (hK.sub [7] rfl)) rfl rfl hl.1 rfl (lv_room (Nat.le_of_ble_eq_true rfl)) dL_law_130 ⟨Nat.le_of_ble_eq_true rfl, Nat.le_of_ble_eq_true rfl⟩).run (fun r_ hr_ => ?_)
  refine wk_top (y := nI 1) (hr_) ?_
  refine lv_if_eq (tgt := 179) hx hb dL_law_133 (by decide) (fun c_ => absurd c_ (by decide)) (fun _ => ?_)
  refine lv_aload hx hb dL_law_136 (lv_at hl 0 rfl) ?_
  refine lv_aload hx hb dL_law_138 (lv_at hl 4 rfl) ?_
  refine vp_callSi (va_runS (As := [.ref ra, .ref hz]) (rest := []) ⟨hx, hb, hml, hown, hts⟩ (met_makes l dC dI ra hz dr dz fr fz (3 + wn_u x % 4) (N + M) hok hfz p3_fr) (va_cwS 2 hts (lw_S q67 q68 q0 q69) rfl rfl rfl (by decide +kernel) ⟨Nat.le_of_ble_eq_true rfl, Nat.le_of_ble_eq_true rfl⟩) (wk_preSp (hP.sub [8, 6] rfl) (hK.sub [7, 5] rfl)) rfl rfl hl.1 rfl (lv_room (Nat.le_of_ble_eq_true rfl)) dL_law_140 ⟨Nat.le_of_ble_eq_true rfl, Nat.le_of_ble_eq_true rfl⟩).run (fun r_ hr_ => ?_)
  refine wk_top (y := nI 1) (hr_) ?_
  refine lv_if_eq (tgt := 179) hx hb dL_law_143 (by decide) (fun c_ => absurd c_ (by decide)) (fun _ => ?_)
  refine lv_aload hx hb dL_law_146 (lv_at hl 0 rfl) ?_
  refine vp_callSi (va_runS (As := [.ref ra]) (rest := []) ⟨hx, hb, hml, hown, hts⟩ (met_many l dC dI ra dr fr) (va_cwS 1 hts (lw_S q64 q65 q0 q66) rfl rfl rfl (by decide +kernel) ⟨Nat.le_of_ble_eq_true rfl, Nat.le_of_ble_eq_true rfl⟩) (wk_preSp (hP.sub [8] rfl) (hK.sub [7] rfl)) rfl rfl hl.1 rfl (lv_room (Nat.le_of_ble_eq_true rfl)) dL_law_148 ⟨Nat.le_of_ble_eq_true rfl, Nat.le_of_ble_eq_true rfl⟩).run (fun r_ hr_ => ?_)
  refine wk_top (y := nI (wn_wt (3 + wn_u x % 4) 253 (((N + M) : Nat) : Int))) (by rw [hr_, wn_cn_wt hok 253 p3_fr]) ?_
  refine lv_aload_n hx hb dL_law_151 rfl (lv_at hl 7 rfl) ?_
  refine lv_aload_n hx hb dL_law_152 rfl (lv_at hl 6 rfl) ?_
  refine lv_iload hx hb dL_law_153 (lv_at hl 3 rfl) ?_
  refine wk_callr (wr := [(hd, .inl (c2, 253, .inl (fun _ => 0))), (r0, .inl (d0, 253, .inl f0)), (hm, .inl (dm, 8, .inl fm)), (hz, .inl (dz, 8, .inl fz)), (hq4, .inl (dq4, 253, .inl g4)), (ra, .inl (dr, 253, .inl fr))]) (va_runS (As := [.ref h0, .ref ha, .int x]) (rest := [.int (nI (wn_wt (3 + wn_u x % 4) 253 (((N + M) : Nat) : Int)))]) ⟨hx, hb, hml, hown, hts⟩ (met_found l dC dI h0 hn hq4 ha (nI (3 + wn_u x % 4)) dn da f4 fa H.size x N hfa) (va_cwS 3 hts (lw_S q46 q47 q0 q48) rfl rfl rfl (by decide +kernel) ⟨Nat.le_of_ble_eq_true rfl, Nat.le_of_ble_eq_true rfl⟩) (wk_preS (hP.sub [4, 5, 2] rfl) (hK.sub [4, 2] rfl) (hD.sub [4, 5, 2] (by decide) rfl)) rfl rfl hl.1 rfl (lv_room (Nat.le_of_ble_eq_true rfl)) dL_law_155 ⟨Nat.le_of_ble_eq_true rfl, Nat.le_of_ble_eq_true rfl⟩) hP hD hS hA hK [4, 5, 2] [0, 1, 3, 6, 7, 8] [0, 1, 3, 5, 6, 7] rfl rfl (by decide) (by decide) rfl (fun u_ ra5 H locs ⟨p1_fr5, p2_fr5, p3_fr5⟩ hP hK hD hS => ?_)
  obtain ⟨hq5, dq5, g5, f5, dr5, fr5⟩ := u_
  have hP : va_P (dC, dI) vwCl [(hd, .inl (c2, 253, .inl (fun _ => 0))), (r0, .inl (d0, 253, .inl f0)), (hm, .inl (dm, 8, .inl fm)), (hz, .inl (dz, 8, .inl fz)), (hq4, .inl (dq4, 253, .inl g4)), (ra, .inl (dr, 253, .inl fr)), (h0, .inr (0, [.ref hn, .ref hq5, .int (nI (3 + wn_u x % 4))])), (hn, .inl (dn, 8, .inl f5)), (ha, .inl (da, 8, .inl fa)), (hq5, .inl (dq5, 253, .inl g5)), (ra5, .inl (dr5, 253, .inl fr5))] H := hP
  have hD : va_D A [(hd, .inl (c2, 253, .inl (fun _ => 0))), (r0, .inl (d0, 253, .inl f0)), (hm, .inl (dm, 8, .inl fm)), (hz, .inl (dz, 8, .inl fz)), (hq4, .inl (dq4, 253, .inl g4)), (ra, .inl (dr, 253, .inl fr)), (h0, .inr (0, [.ref hn, .ref hq5, .int (nI (3 + wn_u x % 4))])), (hn, .inl (dn, 8, .inl f5)), (ha, .inl (da, 8, .inl fa)), (hq5, .inl (dq5, 253, .inl g5)), (ra5, .inl (dr5, 253, .inl fr5))] := hD
  have hK : va_K (dC, dI) vwCl [(c2, .byte), (d0, .int), (dm, .int), (dz, .int), (dq4, .byte), (dr, .int), (dn, .int), (da, .int), (dq5, .byte), (dr5, .int)] s := hK
  have p1_fr5 : ∀ k, k < 8 → f5 k = fa k := p1_fr5
  have p2_fr5 : (∀ q, q < 253 → (g5 q).toInt = wn_dg (3 + wn_u x % 4) ((N : Nat) : Int) q) := p2_fr5
  have p3_fr5 : (∀ q, q < 253 → (fr5 q).toInt = wn_dg (3 + wn_u x % 4) ((N : Nat) : Int) q) := p3_fr5
  refine vp_callSi (va_runS (As := [.ref ra5]) (rest := [.int (nI (wn_wt (3 + wn_u x % 4) 253 (((N + M) : Nat) : Int)))]) ⟨hx, hb, hml, hown, hts⟩ (met_many l dC dI ra5 dr5 fr5) (va_cwS 1 hts (lw_S q64 q65 q0 q66) rfl rfl rfl (by decide +kernel) ⟨Nat.le_of_ble_eq_true rfl, Nat.le_of_ble_eq_true rfl⟩) (wk_preSp (hP.sub [10] rfl) (hK.sub [9] rfl)) rfl rfl hl.1 rfl (lv_room (Nat.le_of_ble_eq_true rfl)) dL_law_158 ⟨Nat.le_of_ble_eq_true rfl, Nat.le_of_ble_eq_true rfl⟩).run (fun r_ hr_ => ?_)
  refine wk_top (y := nI (wn_wt (3 + wn_u x % 4) 253 (N : Int))) (by rw [hr_, wn_cn_wt hok 253 p3_fr5]) ?_
  refine lv_aload_n hx hb dL_law_161 rfl (lv_at hl 7 rfl) ?_
  refine lv_aload_n hx hb dL_law_162 rfl (lv_at hl 5 rfl) ?_
  refine lv_iload hx hb dL_law_163 (lv_at hl 3 rfl) ?_
  refine wk_callr (wr := [(hd, .inl (c2, 253, .inl (fun _ => 0))), (r0, .inl (d0, 253, .inl f0)), (hz, .inl (dz, 8, .inl fz)), (hq4, .inl (dq4, 253, .inl g4)), (ra, .inl (dr, 253, .inl fr)), (ha, .inl (da, 8, .inl fa)), (hq5, .inl (dq5, 253, .inl g5)), (ra5, .inl (dr5, 253, .inl fr5))]) (va_runS (As := [.ref h0, .ref hm, .int x]) (rest := [.int (nI (wn_wt (3 + wn_u x % 4) 253 (N : Int))), .int (nI (wn_wt (3 + wn_u x % 4) 253 (((N + M) : Nat) : Int)))]) ⟨hx, hb, hml, hown, hts⟩ (met_found l dC dI h0 hn hq5 hm (nI (3 + wn_u x % 4)) dn dm f5 fm H.size x M hfm) (va_cwS 3 hts (lw_S q46 q47 q0 q48) rfl rfl rfl (by decide +kernel) ⟨Nat.le_of_ble_eq_true rfl, Nat.le_of_ble_eq_true rfl⟩) (wk_preS (hP.sub [6, 7, 2] rfl) (hK.sub [6, 2] rfl) (hD.sub [6, 7, 2] (by decide) rfl)) rfl rfl hl.1 rfl (lv_room (Nat.le_of_ble_eq_true rfl)) dL_law_165 ⟨Nat.le_of_ble_eq_true rfl, Nat.le_of_ble_eq_true rfl⟩) hP hD hS hA hK [6, 7, 2] [0, 1, 3, 4, 5, 8, 9, 10] [0, 1, 3, 4, 5, 7, 8, 9] rfl rfl (by decide) (by decide) rfl (fun u_ ra6 H locs ⟨p1_fr6, p2_fr6, p3_fr6⟩ hP hK hD hS => ?_)
  obtain ⟨hq6, dq6, g6, f6, dr6, fr6⟩ := u_
  have hP : va_P (dC, dI) vwCl [(hd, .inl (c2, 253, .inl (fun _ => 0))), (r0, .inl (d0, 253, .inl f0)), (hz, .inl (dz, 8, .inl fz)), (hq4, .inl (dq4, 253, .inl g4)), (ra, .inl (dr, 253, .inl fr)), (ha, .inl (da, 8, .inl fa)), (hq5, .inl (dq5, 253, .inl g5)), (ra5, .inl (dr5, 253, .inl fr5)), (h0, .inr (0, [.ref hn, .ref hq6, .int (nI (3 + wn_u x % 4))])), (hn, .inl (dn, 8, .inl f6)), (hm, .inl (dm, 8, .inl fm)), (hq6, .inl (dq6, 253, .inl g6)), (ra6, .inl (dr6, 253, .inl fr6))] H := hP
  have hD : va_D A [(hd, .inl (c2, 253, .inl (fun _ => 0))), (r0, .inl (d0, 253, .inl f0)), (hz, .inl (dz, 8, .inl fz)), (hq4, .inl (dq4, 253, .inl g4)), (ra, .inl (dr, 253, .inl fr)), (ha, .inl (da, 8, .inl fa)), (hq5, .inl (dq5, 253, .inl g5)), (ra5, .inl (dr5, 253, .inl fr5)), (h0, .inr (0, [.ref hn, .ref hq6, .int (nI (3 + wn_u x % 4))])), (hn, .inl (dn, 8, .inl f6)), (hm, .inl (dm, 8, .inl fm)), (hq6, .inl (dq6, 253, .inl g6)), (ra6, .inl (dr6, 253, .inl fr6))] := hD
  have hK : va_K (dC, dI) vwCl [(c2, .byte), (d0, .int), (dz, .int), (dq4, .byte), (dr, .int), (da, .int), (dq5, .byte), (dr5, .int), (dn, .int), (dm, .int), (dq6, .byte), (dr6, .int)] s := hK
  have p1_fr6 : ∀ k, k < 8 → f6 k = fm k := p1_fr6
  have p2_fr6 : (∀ q, q < 253 → (g6 q).toInt = wn_dg (3 + wn_u x % 4) ((M : Nat) : Int) q) := p2_fr6
  have p3_fr6 : (∀ q, q < 253 → (fr6 q).toInt = wn_dg (3 + wn_u x % 4) ((M : Nat) : Int) q) := p3_fr6
  refine vp_callSi (va_runS (As := [.ref ra6]) (rest := [.int (nI (wn_wt (3 + wn_u x % 4) 253 (N : Int))), .int (nI (wn_wt (3 + wn_u x % 4) 253 (((N + M) : Nat) : Int)))]) ⟨hx, hb, hml, hown, hts⟩ (met_many l dC dI ra6 dr6 fr6) (va_cwS 1 hts (lw_S q64 q65 q0 q66) rfl rfl rfl (by decide +kernel) ⟨Nat.le_of_ble_eq_true rfl, Nat.le_of_ble_eq_true rfl⟩) (wk_preSp (hP.sub [12] rfl) (hK.sub [11] rfl)) rfl rfl hl.1 rfl (lv_room (Nat.le_of_ble_eq_true rfl)) dL_law_168 ⟨Nat.le_of_ble_eq_true rfl, Nat.le_of_ble_eq_true rfl⟩).run (fun r_ hr_ => ?_)
  refine wk_top (y := nI (wn_wt (3 + wn_u x % 4) 253 (M : Int))) (by rw [hr_, wn_cn_wt hok 253 p3_fr6]) ?_
  refine lv_iadd hx hb dL_law_171 ?_
  refine wk_top (y := nI (wn_wt (3 + wn_u x % 4) 253 (N : Int) + wn_wt (3 + wn_u x % 4) 253 (M : Int))) (nI_add _ _) ?_
  have hsum : wn_wt (3 + wn_u x % 4) 253 (((N + M) : Nat) : Int) ≤ wn_wt (3 + wn_u x % 4) 253 (N : Int) + wn_wt (3 + wn_u x % 4) 253 (M : Int) := by rw [Int.natCast_add]; exact wn_sum hok 253 _ _
  have hlen1 := wn_wt_len (3 + wn_u x % 4) 253 (N : Int)
  have hlen2 := wn_wt_len (3 + wn_u x % 4) 253 (M : Int)
  have hlen3 := wn_wt_len (3 + wn_u x % 4) 253 (((N + M) : Nat) : Int)
  refine lv_icmp_gt (tgt := 179) hx hb dL_law_172 (by decide) (fun c_ => absurd c_ (nI_nlt hsum (by omega))) (fun _ => ?_)
  refine lv_iconst (v := 1) hx hb dL_law_175 (by decide) ?_
  refine lv_goto (tgt := 180) hx hb dL_law_176 (by decide) ?_
  refine va_forget (fun q hq => hA2 _ (hS.2.2 q hq)) ?_
  refine W.widen (k := 1200000) (n := 5502250) (Nat.le_of_ble_eq_true rfl) (Nat.le_of_ble_eq_true rfl) ?_
  exact lw_ret hx hb hr hlocks dL_law_180
end
section
/-! the claim out of the law's walk -/
set_option maxHeartbeats 4000000 in
theorem lw_walk (l : Launch) (hflags : l.flags = flags0) (b : Addr) (xs : List Int32) : MetFree l x (headSpec (Jvm.Cond.code x code maxLocals ret :: tables_1) room_1) (lw_P b xs) (fun _ _ _ _ _ => True) lw_Q := by
  refine MetFree.of_bodyS (code := code) (maxLocals := maxLocals) (ret := ret) (by decide) ?_ ?_
  · intro args s m h hn
    obtain ⟨meth, c, h1, h2, h3, h4, h5, h6, -, -⟩ := Cond.code_spec hn (atoms_spec (ws := Jvm.Cond.code x code maxLocals ret :: tables_1) h _ List.mem_cons_self)
    exact ⟨meth, c, h1, h2, h3, h4, h5, h6⟩
  · intro p e s m args below meth c s₁ B hml0 hP _
    obtain ⟨rfl, hx, hbd, hgv⟩ := hP
    obtain ⟨scr, harrAt, hlist, hof, hsmall⟩ := hx
    obtain ⟨hcb, hkn, -, -⟩ := State.arrayAt?_spec harrAt
    have hown : s.vm.findClass R_law = some m.cls := findClass_of_methodNamed B.named
    have hts0 : ∀ c ∈ (Jvm.Cond.code x code maxLocals ret :: tables_1), c.before #[Value.ref b] s = true := atoms_spec (ws := Jvm.Cond.code x code maxLocals ret :: tables_1) B.pre
    have hts : ∀ w ∈ lw_tbl, w.before #[Value.ref b] s = true := k2_hts_sels lw_privs (fun w hw => hts0 w (List.mem_cons_of_mem _ hw)) lw_privs_ok
    have hml : c.maxLocals = 9 := B.maxLocals_eq (hts0 _ List.mem_cons_self)
    have X₀ : Stand p l e room_1 s m #[Value.ref b] below meth c s₁ [] 0 0 := Stand.of_body B
    have hh0 : s₁.heap = s.heap := by rw [B.state]; rfl
    have hsz : scr.slots.size = xs.length := by rw [← Array.length_toList, hlist, List.length_map]
    have hval : ∀ j : Nat, j < xs.length → scr.slots[j]? = some (.int (xs.getD j 0)) := fun j hj => by
      rw [← Array.getElem?_toList, hlist]
      simp [hj]
    have hbl : b < s.heap.size := (Array.getElem?_eq_some_iff.mp hcb).1
    have hX : va_X b xs.length (fun j => xs.getD j 0) s s.heap := ⟨scr, hcb, hof, hkn, hsz, hval⟩
    have K : W p l e room_1 s m #[Value.ref b] below meth c s₁.heap [] 0 0 (lw_Z below #[Value.ref b] s) (entryFrame m ([Value.ref b] : List Value).toArray 9) := by
      rw [hh0]
      exact whole_start l hflags hbd ⟨B.exec, B.bytes, B.returns, hml, hown, hts, hX, hbl, B.notSynchronized, hgv⟩
    obtain ⟨t, a1, o, b1, b2, b3⟩ := K s₁ rfl X₀
    exact ⟨t, o, a1, b1, b2, b3⟩
theorem lw_pre_spec {args : Array Value} {s : State} (h : (Jvm.Cond.and given_1 narrow_1).before args s = true) (hr : rest_1_c.before args s = true) : ∃ (b : Addr) (xs : List Int32), lw_P b xs args s := by
  have hs := flat_of_before _ h
  have hq := flat_of_before _ hr
  have hc : (Cond.count 1).before args s = true := hs _ (by decide +kernel)
  have harr : (Cond.arrayOf (.arg 0) .int).before args s = true := hs _ (by decide +kernel)
  have hle : (Cond.le (.length (.arg 0)) (.int 24)).before args s = true := hs _ (by decide +kernel)
  have hlen : (Cond.isInt (.length (.arg 0))).before args s = true := hq _ (by decide +kernel)
  have hall : (Cond.all (.arg 0) (.isInt (.elem (.arg 0) (.index 0)))).before args s = true := hq _ (by decide +kernel)
  obtain ⟨b, xs, hb, hx⟩ := State.ints_of_pre rfl harr hlen hall
  have hsm : xs.length < 2 ^ 31 := hx.choose_spec.2.2.2
  have hev : (Term.length (.arg 0)).eval args s none [] s = some (.int xs.length.toInt32) := hx.length_eval hb
  have hv := Cond.le_ints hev (show (Term.int 24).eval args s none [] s = some (.int 24) from rfl)
  have hd : xs.length.toInt32 ≤ 24 := by
    simpa [Cond.before, Cond.holds, hv] using hle
  have hN : xs.length ≤ 24 := (Int32.ofNat_le_ofNat hsm (by decide)).mp (show Int32.ofNat xs.length ≤ Int32.ofNat 24 from hd)
  exact ⟨b, xs, Cond.one_arg hc (show args[0]? = some (.ref b) from hb), hx, hN, h⟩
theorem lw_comes (l : Launch) (hflags : l.flags = flags0) : Comes l x (Jvm.Cond.code x code maxLocals ret :: tables_1) room_1 (fun tb e args s => Calls_1 tb e args s ∧ rest_1 tb e args s ∧ Pre_1 tb e args s)
    (fun _ _ args s o t => lw_Q args s o t) := by
  intro p e ha hc hk s m args below hf hfit hheap happ hpre
  obtain ⟨b, xs, hP⟩ := lw_pre_spec hpre.2.2 hpre.2.1
  obtain ⟨k, o, h1, h2, h3, hQ⟩ := lw_walk l hflags b xs p e ha hc hk s m args below hf ((Spec.applies_iff_loose hf).mp happ).1 hP trivial
  exact ⟨k, o, h1, h2, h3, hQ⟩
theorem lw_frame {s t : State} {o : Outcome} {args : Array Value} (h : Framed s o t [] 1200000 5502250) :
    Framed s o t (fieldLocs frame_1_writes args s ++ arrayLocs frame_1_arrays args s ++ staticLocs frame_1_statics s) 1200000 5502250 := h
theorem lw_limb (L : Cond) (hL : ∀ (args : Array Value) (s t : State), L.after args s (.returned (some (.int 1))) t = true) :
    ArmFor flags0 classFile x code maxLocals ret World_1 tables_1 room_1 Calls_1 rest_1 Pre_1
      (fun tb e a s o t => postC L tb e a s o t ∧ Framed s o t (fieldLocs frame_1_writes a s ++ arrayLocs frame_1_arrays a s ++ staticLocs frame_1_statics s) 1200000 5502250) := by
  intro l hflags _ _ p e ha hc hk s m args below hf hfit hheap happ hpre
  obtain ⟨k, o, h1, h2, h3, rfl, hF⟩ := lw_comes l hflags p e ha hc hk s m args below hf hfit hheap happ hpre
  exact ⟨k, _, h1, h2, h3, hL args s _, lw_frame hF⟩
theorem i_vc : Claimed_1_1 ∧ Claimed_1_2 := ⟨lw_limb limb_1_1 (fun args s t => by simp [limb_1_1, Cond.after, Cond.holds, Cond.value]), lw_limb limb_1_2 (fun args s t => Cond.after_iff.mpr (by
  first | (rw [show limb_1_2 = Cond.eq .result (.int 1) from rfl, Cond.eq_ints (x := 1) (y := 1) rfl rfl]; simp; done) | (simp [limb_1_2, Cond.value, Term.eval]; done)))⟩
end
